/-
  The proof of 'Rows.FnIsLCAlphaIsTheLowerAlphabetSaid' over the given shell.
-/
import Derived.Test.Qxb6605909aModsRows
import Derived.WalkKit
import Derived.ProofKit
import Derived.OpenShut
import Derived.ShutString
namespace Go.Proofs.Qxb6605909aMods.fnIsLCAlphaIsTheLowerAlphabet
open Go.ChangeShapes Go.WideShapes Go.ChangeAt Go.RowKit
open Go.ChangeMaps (open_string shut_string)
set_option linter.unusedVariables false      -- a walk need not use every 'w<i>' (that an integer argument fits its kind)

theorem own : ownKnob Trym.prog.godebug = none := by kernel_rfl

/-! ### The plain functions -/
def lc (c : Int) : Bool := decide (97 ≤ c ∧ c ≤ 122)
def inS (l : List UInt8) (c : Int) : Bool := l.any fun b => (b.toNat : Int) == c
def lowerBytes : List UInt8 := [97, 98, 99, 100, 101, 102, 103, 104, 105, 106, 107, 108, 109, 110, 111, 112, 113, 114, 115, 116, 117, 118, 119, 120, 121, 122]

theorem inS_snoc (l : List UInt8) (b : UInt8) (c : Int) : inS (l ++ [b]) c = (inS l c || (b.toNat : Int) == c) := by
  simp [inS]

theorem take_snoc (s : ByteArray) (k : Nat) (h : k < s.size) : s.data.toList.take (k + 1) = s.data.toList.take k ++ [s[k]] := by
  rw [List.take_succ_eq_append_getElem (by simpa using h)]; rfl

theorem inS_lower (c : Int) (h : 0 ≤ c) (h2 : c ≤ 255) : inS lowerBytes c = lc c := by
  have key : ∀ n : Fin 256, inS lowerBytes ((n.val : Nat) : Int) = lc ((n.val : Nat) : Int) := by decide +kernel
  have := key ⟨c.toNat, by omega⟩
  simp only [show ((c.toNat : Nat) : Int) = c from by omega] at this
  exact this

/-! ### The callees' contracts -/
theorem lc_any (c : Int) (w : World) : Calls Trym.prog 8 #[.int .u8 c] w fun e w' => e = .returned (.bool (lc c)) ∧ w' = w := by
  by_cases h1 : 97 ≤ c
  · by_cases h2 : c ≤ 122
    · have e : lc c = true := by simp [lc]; omega
      rw [e]
      go_enter Trym.func8, Trym.ntmps8
      go_wp2
      go_ret
      exact ⟨rfl, rfl⟩
    · have e : lc c = false := by simp [lc]; omega
      rw [e]
      go_enter Trym.func8, Trym.ntmps8
      go_wp2
      go_ret
      exact ⟨rfl, rfl⟩
  · have e : lc c = false := by simp [lc]; omega
    rw [e]
    go_enter Trym.func8, Trym.ntmps8
    go_wp2
    go_ret
    exact ⟨rfl, rfl⟩

theorem inSet_any (s : ByteArray) (c : Int) (w : World) (hs : s.size ≤ maxLen) :
    Calls Trym.prog 9 #[.string s, .int .u8 c] w fun e w' => e = .returned (.bool (inS s.data.toList c)) ∧ w' = w := by
  unfold maxLen at hs
  go_enter Trym.func9, Trym.ntmps9
  go_wp2
  go_loop [5] (fun i => ∃ k : Nat, k ≤ s.size ∧ i = .int .i64 k ∧ inS (s.data.toList.take k) c = false) (fun i => s.size - (intOf i).toNat)
  case atStart => exact ⟨0, Nat.zero_le _, rfl, by simp [inS]⟩
  case round =>
    obtain ⟨k, hk, rfl, hno⟩ := hrel
    have HN : Hid (inS (s.data.toList.take k) c = false) := hno
    clear hno
    by_cases hlt : k < s.size
    · have hts := take_snoc s k hlt
      have HS : Hid (inS (s.data.toList.take (k + 1)) c = (inS (s.data.toList.take k) c || (s[k].toNat : Int) == c)) := by rw [hts]; exact inS_snoc _ _ _
      clear hts
      by_cases he : (s[k].toNat : Int) = c
      · have HA : Hid (inS s.data.toList c = true) := by
          show inS s.data.toList c = true
          rw [← List.take_append_drop (k + 1) s.data.toList]
          have h1 := HS.out
          rw [HN.out] at h1
          simp only [inS, List.any_append] at h1 ⊢
          rw [h1]; simp [he]
        have hb : ((s[k].toNat : Int) == c) = true := by simp [he]
        have HE : Hid ((s[k].toNat : Int) = c) := he
        clear he
        go_wp2
        go_ret
        exact ⟨by rw [HA.out]; rfl, rfl⟩
      · have hb : ((s[k].toNat : Int) == c) = false := by simp [he]
        go_wp2
        go_round
        case rel => exact ⟨k + 1, by omega, by go_num, by rw [HS.out, HN.out, hb]; rfl⟩
        case measure => simp [intOf]; omega
    · go_wp2
      go_ret
      refine ⟨?_, rfl⟩
      have := HN.out
      rw [List.take_of_length_le (by simp; omega)] at this
      rw [this]; rfl


/-! ### STEP 1: THE WALK: the Go text returns true. 'Grown w w'': the world has at most new blocks (Derived/RowKit3.lean). Part the cases AHEAD of 'go_enter' where a test parts the walk; take each callee by a contract of your own. -/
theorem walk (a0 : Int) (w0 : (Lit.int .u8 a0).wf = true) (w : World) :
    Calls Trym.prog 4 #[.int .u8 a0] w fun e w' => e = .returned (.bool true) ∧ Grown w w' := by
  obtain ⟨h0, h1⟩ : 0 ≤ a0 ∧ a0 ≤ 255 := bounds_u8 w0
  have HE : Hid (inS lowerBytes a0 = lc a0) := inS_lower a0 h0 h1
  go_enter Trym.func4, Trym.ntmps4
  go_wp2_with fail
  refine (lc_any _ _).mono ?_
  rintro e w' ⟨rfl, rfl⟩
  go_wp2_with fail
  refine (inSet_any _ _ _ (by decide)).mono ?_
  rintro e w' ⟨rfl, rfl⟩
  have HB : (lc a0 == inS lowerBytes a0) = true := by rw [HE.out]; simp
  go_wp2
  go_ret
  exact ⟨congrArg (fun b => Ending.returned (Value.bool b)) HB, Grown.refl _⟩

/-! ### THE ROW's STEP: WRITTEN OUT: LEAVE IT -/
set_option maxRecDepth 100000 in
theorem lifted (os : Os) (started : os.Started) (H : Type) (enc : TypeId × Value → H) :
    ReturnsInHanded {} Trym.checked os 4 .any (Rows.fnIsLCAlphaIsTheLowerAlphabetSpec.pre6 enc Trym.prog Trym.f4 Rows.fnIsLCAlphaIsTheLowerAlphabetRow.domain false) (Rows.fnIsLCAlphaIsTheLowerAlphabetSpec.post enc Trym.prog Trym.f4 false true false false) := by
  refine returnsInHanded_of_change (C := Trym.checked) own started (by kernel_rfl) Trym.func4
    (ChangeSpec.witness6 (enc := enc) (C := Trym.checked) false ⟨#[], #[.int .u8 0], []⟩ 8 (by kernel_rfl) (by kernel_rfl) (by kernel_rfl) (by kernel_rfl)) ?_
  intro W base args ds gs before hval0 hW hcnd _
  have hval : ∀ (j : Nat) t v, Trym.f4.params[j]? = some t → args[j]? = some v → Value.okWide Trym.prog W .any base t v := hval0
  have hW' := hW
  obtain ⟨p, q, hA0, hV, rfl, hfz, hnd⟩ := hW
  have hA : DataW.TrodAll enc Trym.prog W 0 (fun _ => true) true Trym.f4.params.toList args.toList ds p := hA0
  rw [Trym.params4] at hA hval
  obtain ⟨v0, vs0, d0, ds0, p0, q0, hargs, rfl, rfl, h0, r0⟩ := trodAll_cons hA
  obtain ⟨rfl, rfl, rfl⟩ := trodAll_nil r0
  obtain rfl : args = #[v0] := by cases args; simp_all
  obtain ⟨rfl, rfl⟩ := trodVars_none hV
  obtain ⟨a0, rfl, rfl, rfl, w0⟩ := open_int Trym.underlying5 (hval 0 5 v0 rfl rfl) h0
  clear hA0 hval0
  simp only [List.append_nil] at hW'
  refine (walk a0 w0 W).mono fun e W' ⟨he, hg⟩ => ?_
  subst he
  exact ⟨_, rfl, post_of_same (pa := []) (pv := []) hW' (fun _ _ _ => (trodAll_cons_mk (shut_bool Trym.underlying4 _) trodAll_mk0)) (fun sp _ => (trodAll_cons_mk (shut_int Trym.underlying5 w0) trodAll_mk0)) (fun _ _ => rfl) rfl
    (hg.frame _) hg.2.1 (ok_one (by kernel_rfl) rfl (okWide_bool_mk Trym.underlying4 _))⟩

theorem over : Rows.fnIsLCAlphaIsTheLowerAlphabetRow.holds Trym.pinned (OpenSpec.ofChange Rows.fnIsLCAlphaIsTheLowerAlphabetSpec) :=
  OpenClaim.holds_of_wide 4 Trym.f4 rfl rfl rfl rfl rfl rfl rfl ⟨rfl, rfl, rfl, rfl, rfl⟩ rfl rfl rfl rfl rfl (by kernel_rfl) Trym.func4 (by kernel_rfl)
    (of_decide_eq_true (by kernel_rfl)) (by unfold Func.isWrapper; first | (rw [if_pos (by decide +kernel)]; kernel_rfl) | (rw [if_neg (by decide +kernel)]; exact ⟨rfl, rfl⟩))
    (fun os started H enc _ => lifted os started H enc)

/-- ████ THE STATEMENT ████ -/
theorem proved : Rows.FnIsLCAlphaIsTheLowerAlphabetSaid :=
  over
end Go.Proofs.Qxb6605909aMods.fnIsLCAlphaIsTheLowerAlphabet
