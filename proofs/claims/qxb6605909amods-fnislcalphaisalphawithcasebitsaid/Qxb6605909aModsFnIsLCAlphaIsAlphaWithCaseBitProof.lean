/-
  The proof of 'Rows.FnIsLCAlphaIsAlphaWithCaseBitSaid' over the given shell.
-/
import Derived.Test.Qxb6605909aModsRows
import Derived.WalkKit
import Derived.ProofKit
import Derived.OpenShut
import Derived.ShutString
namespace Go.Proofs.Qxb6605909aMods.fnIsLCAlphaIsAlphaWithCaseBit
open Go.ChangeShapes Go.WideShapes Go.ChangeAt Go.RowKit
open Go.ChangeMaps (open_string shut_string)
set_option linter.unusedVariables false      -- a walk need not use every 'w<i>' (that an integer argument fits its kind)

theorem own : ownKnob Trym.prog.godebug = none := by kernel_rfl

/-! ### The plain functions -/
def lc (c : Int) : Bool := decide (97 ≤ c ∧ c ≤ 122)
def al (c : Int) : Bool := lc c || decide (65 ≤ c ∧ c ≤ 90)
/-- How many of the numbers below k are lower-case letters. -/
def cnt (k : Nat) : Nat := min (k - 97) 26

theorem case_bit (c : Int) (h : 0 ≤ c) (h2 : c ≤ 255) : (lc c == (al c && bits .and .u8 c 32 != 0)) = true := by
  have key : ∀ n : Fin 256, (lc ((n.val : Nat) : Int) == (al ((n.val : Nat) : Int) && bits .and .u8 ((n.val : Nat) : Int) 32 != 0)) = true := by decide +kernel
  have := key ⟨c.toNat, by omega⟩
  simp only [show ((c.toNat : Nat) : Int) = c from by omega] at this
  exact this

/-! ### The callees' contracts -/
theorem lc_yes (c : Int) (w : World) (h : lc c = true) : Calls Trym.prog 8 #[.int .u8 c] w fun e w' => e = .returned (.bool true) ∧ w' = w := by
  obtain ⟨h1, h2⟩ : 97 ≤ c ∧ c ≤ 122 := by simpa [lc] using h
  clear h
  go_enter Trym.func8, Trym.ntmps8
  go_wp2
  go_ret
  exact ⟨rfl, rfl⟩

theorem lc_no (c : Int) (w : World) (h : lc c = false) : Calls Trym.prog 8 #[.int .u8 c] w fun e w' => e = .returned (.bool false) ∧ w' = w := by
  have h' : ¬ (97 ≤ c ∧ c ≤ 122) := by simpa [lc] using h
  clear h
  by_cases h1 : 97 ≤ c
  · have h2 : ¬ c ≤ 122 := fun h => h' ⟨h1, h⟩
    clear h'
    go_enter Trym.func8, Trym.ntmps8
    go_wp2
    go_ret
    exact ⟨rfl, rfl⟩
  · clear h'
    go_enter Trym.func8, Trym.ntmps8
    go_wp2
    go_ret
    exact ⟨rfl, rfl⟩

theorem lc_any (c : Int) (w : World) : Calls Trym.prog 8 #[.int .u8 c] w fun e w' => e = .returned (.bool (lc c)) ∧ w' = w := by
  cases h : lc c
  · exact lc_no c w h
  · exact lc_yes c w h

theorem al_any (c : Int) (w : World) : Calls Trym.prog 10 #[.int .u8 c] w fun e w' => e = .returned (.bool (al c)) ∧ w' = w := by
  by_cases h1 : 97 ≤ c
  · by_cases h2 : c ≤ 122
    · have e : al c = true := by simp [al, lc]; omega
      rw [e]
      clear e
      go_enter Trym.func10, Trym.ntmps10
      go_wp2
      go_ret
      exact ⟨rfl, rfl⟩
    · have e : al c = false := by simp [al, lc]; omega
      rw [e]
      clear e
      have h3 : 65 ≤ c := by omega
      have h4 : ¬ c ≤ 90 := by omega
      go_enter Trym.func10, Trym.ntmps10
      go_wp2
      go_ret
      exact ⟨rfl, rfl⟩
  · by_cases h3 : 65 ≤ c
    · by_cases h4 : c ≤ 90
      · have e : al c = true := by simp [al, lc]; omega
        rw [e]
        clear e
        go_enter Trym.func10, Trym.ntmps10
        go_wp2
        go_ret
        exact ⟨rfl, rfl⟩
      · have e : al c = false := by simp [al, lc]; omega
        rw [e]
        clear e
        go_enter Trym.func10, Trym.ntmps10
        go_wp2
        go_ret
        exact ⟨rfl, rfl⟩
    · have e : al c = false := by simp [al, lc]; omega
      rw [e]
      clear e
      go_enter Trym.func10, Trym.ntmps10
      go_wp2
      go_ret
      exact ⟨rfl, rfl⟩


/-! ### STEP 1: THE WALK: the Go text returns true. 'Grown w w'': the world has at most new blocks (Derived/RowKit3.lean). Part the cases AHEAD of 'go_enter' where a test parts the walk; take each callee by a contract of your own. -/
set_option maxRecDepth 20000 in
theorem walk (a0 : Int) (w0 : (Lit.int .u8 a0).wf = true) (w : World) :
    Calls Trym.prog 5 #[.int .u8 a0] w fun e w' => e = .returned (.bool true) ∧ Grown w w' := by
  obtain ⟨h0, h1⟩ : 0 ≤ a0 ∧ a0 ≤ 255 := bounds_u8 w0
  have HE : Hid ((lc a0 == (al a0 && bits .and .u8 a0 32 != 0)) = true) := case_bit a0 h0 h1
  go_enter Trym.func5, Trym.ntmps5
  go_wp2
  go_loop [3, 4] (fun n i => ∃ k : Nat, k ≤ 256 ∧ i = .int .i64 k ∧ n = .int .i64 (cnt k)) (fun _ i => 256 - (intOf i).toNat)
  case atStart => exact ⟨0, by omega, rfl, rfl⟩
  case round =>
    obtain ⟨k, hk, rfl, rfl⟩ := hrel
    have hcb : cnt k ≤ 26 := by unfold cnt; omega
    by_cases hlt : k < 256
    · have hm : (k : Int) % 256 = k := by omega
      cases hl : lc (k : Int)
      · have HC : Hid (cnt (k + 1) = cnt k) := by
          show cnt (k + 1) = cnt k
          simp [lc] at hl
          unfold cnt; omega
        go_wp2_with fail
        refine (lc_no _ _ ?_).mono ?_
        · exact hl
        rintro e w' ⟨rfl, rfl⟩
        go_wp2
        go_round
        case rel => exact ⟨k + 1, by omega, by go_num, by rw [HC.out]⟩
        case measure => simp [intOf]; omega
      · have HC : Hid (cnt (k + 1) = cnt k + 1) := by
          show cnt (k + 1) = cnt k + 1
          simp [lc] at hl
          unfold cnt; omega
        go_wp2_with fail
        refine (lc_yes _ _ ?_).mono ?_
        · exact hl
        rintro e w' ⟨rfl, rfl⟩
        go_wp2
        go_round
        case rel => exact ⟨k + 1, by omega, by go_num, by rw [HC.out]; go_num⟩
        case measure => simp [intOf]; omega
    · have hk2 : k = 256 := by omega
      subst hk2
      have hc26 : cnt 256 = 26 := rfl
      rw [hc26]
      clear hc26 hcb
      go_wp2_with fail
      refine (lc_any _ _).mono ?_
      rintro e w' ⟨rfl, rfl⟩
      cases hal : al a0
      · go_wp2_with fail
        refine (al_any _ _).mono ?_
        rintro e w' ⟨rfl, rfl⟩
        rw [hal]
        have HB : (lc a0 == false) = true := by have := HE.out; rw [hal] at this; simpa using this
        go_wp2
        go_ret
        exact ⟨by simp, Grown.refl _⟩
      · go_wp2_with fail
        refine (al_any _ _).mono ?_
        rintro e w' ⟨rfl, rfl⟩
        rw [hal]
        have HB : (lc a0 == (bits .and .u8 a0 32 != 0)) = true := by have := HE.out; rw [hal] at this; simpa using this
        go_wp2
        go_ret
        exact ⟨by simp, Grown.refl _⟩

/-! ### THE ROW's STEP: WRITTEN OUT: LEAVE IT -/
set_option maxRecDepth 100000 in
theorem lifted (os : Os) (started : os.Started) (H : Type) (enc : TypeId × Value → H) :
    ReturnsInHanded {} Trym.checked os 5 .any (Rows.fnIsLCAlphaIsAlphaWithCaseBitSpec.pre6 enc Trym.prog Trym.f5 Rows.fnIsLCAlphaIsAlphaWithCaseBitRow.domain false) (Rows.fnIsLCAlphaIsAlphaWithCaseBitSpec.post enc Trym.prog Trym.f5 false true false false) := by
  refine returnsInHanded_of_change (C := Trym.checked) own started (by kernel_rfl) Trym.func5
    (ChangeSpec.witness6 (enc := enc) (C := Trym.checked) false ⟨#[], #[.int .u8 0], []⟩ 8 (by kernel_rfl) (by kernel_rfl) (by kernel_rfl) (by kernel_rfl)) ?_
  intro W base args ds gs before hval0 hW hcnd _
  have hval : ∀ (j : Nat) t v, Trym.f5.params[j]? = some t → args[j]? = some v → Value.okWide Trym.prog W .any base t v := hval0
  have hW' := hW
  obtain ⟨p, q, hA0, hV, rfl, hfz, hnd⟩ := hW
  have hA : DataW.TrodAll enc Trym.prog W 0 (fun _ => true) true Trym.f5.params.toList args.toList ds p := hA0
  rw [Trym.params5] at hA hval
  obtain ⟨v0, vs0, d0, ds0, p0, q0, hargs, rfl, rfl, h0, r0⟩ := trodAll_cons hA
  obtain ⟨rfl, rfl, rfl⟩ := trodAll_nil r0
  obtain rfl : args = #[v0] := by cases args; simp_all
  obtain ⟨rfl, rfl⟩ := trodVars_none hV
  obtain ⟨a0, rfl, rfl, rfl, w0⟩ := open_int Trym.underlying5 (hval 0 5 v0 rfl rfl) h0
  clear hA0 hval0
  simp only [List.append_nil] at hW'
  refine (walk a0 w0 W).mono fun e W' ⟨he, hg⟩ => ?_
  subst he
  exact ⟨_, rfl, post_of_same (pa := []) (pv := []) hW' (fun _ _ _ => (trodAll_cons_mk (shut_bool Trym.underlying4 _) trodAll_mk0)) (fun sp _ => (trodAll_cons_mk (shut_int Trym.underlying5 w0) trodAll_mk0)) (fun _ _ => rfl) rfl
    (hg.frame _) hg.2.1 (ok_one (by kernel_rfl) rfl (okWide_bool_mk Trym.underlying4 _))⟩

theorem over : Rows.fnIsLCAlphaIsAlphaWithCaseBitRow.holds Trym.pinned (OpenSpec.ofChange Rows.fnIsLCAlphaIsAlphaWithCaseBitSpec) :=
  OpenClaim.holds_of_wide 5 Trym.f5 rfl rfl rfl rfl rfl rfl rfl ⟨rfl, rfl, rfl, rfl, rfl⟩ rfl rfl rfl rfl rfl (by kernel_rfl) Trym.func5 (by kernel_rfl)
    (of_decide_eq_true (by kernel_rfl)) (by unfold Func.isWrapper; first | (rw [if_pos (by decide +kernel)]; kernel_rfl) | (rw [if_neg (by decide +kernel)]; exact ⟨rfl, rfl⟩))
    (fun os started H enc _ => lifted os started H enc)

/-- ████ THE STATEMENT ████ -/
theorem proved : Rows.FnIsLCAlphaIsAlphaWithCaseBitSaid :=
  over
end Go.Proofs.Qxb6605909aMods.fnIsLCAlphaIsAlphaWithCaseBit
