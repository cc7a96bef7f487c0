/-
  The proof of 'Rows.FnScaleBracketsTheExactShareSaid' over the given shell.
-/
import Derived.Test.Qxb6608573aModsRows
import Derived.WalkKit
import Derived.ProofKit
import Derived.OpenShut
import Derived.ShutString
namespace Go.Proofs.Qxb6608573aMods.fnScaleBracketsTheExactShare
open Go.ChangeShapes Go.WideShapes Go.ChangeAt Go.RowKit
open Go.ChangeMaps (open_string shut_string)
set_option linter.unusedVariables false      -- a walk need not use every 'w<i>' (that an integer argument fits its kind)

theorem own : ownKnob Trym.prog.godebug = none := by kernel_rfl

theorem mul_bounds (p t : Int) (h0 : 0 ≤ p) (h1 : p ≤ 4294967296) (h2 : 0 ≤ t) (h3 : t ≤ 2147483647) : 0 ≤ p * t ∧ p * t ≤ 9223372032559808512 := by
  refine ⟨Int.mul_nonneg h0 h2, ?_⟩
  have a : p * t ≤ 4294967296 * t := Int.mul_le_mul_of_nonneg_right h1 h2
  have b : 4294967296 * t ≤ 4294967296 * 2147483647 := Int.mul_le_mul_of_nonneg_left h3 (by omega)
  omega

theorem scale_down (p t : Int) (w : World) (h0 : 0 ≤ p) (h1 : p ≤ 4294967296) (h2 : 0 ≤ t) (h3 : t ≤ 2147483647) :
    Calls Trym.prog 5 #[.int .i64 p, .int .i32 t, .bool false] w fun e w' => e = .returned (.int .i64 (p * t / 100)) ∧ w' = w := by
  obtain ⟨hm0, hm1⟩ := mul_bounds p t h0 h1 h2 h3
  go_enter Trym.func5, Trym.ntmps5
  go_wp2
  go_ret
  exact ⟨rfl, rfl⟩

theorem scale_up (p t : Int) (w : World) (h0 : 0 ≤ p) (h1 : p ≤ 4294967296) (h2 : 0 ≤ t) (h3 : t ≤ 2147483647) :
    Calls Trym.prog 5 #[.int .i64 p, .int .i32 t, .bool true] w fun e w' => e = .returned (.int .i64 ((p * t + 99) / 100)) ∧ w' = w := by
  obtain ⟨hm0, hm1⟩ := mul_bounds p t h0 h1 h2 h3
  go_enter Trym.func5, Trym.ntmps5
  go_wp2
  go_ret
  exact ⟨rfl, rfl⟩


/-! ### STEP 1: THE WALK: the Go text returns true. 'Grown w w'': the world has at most new blocks (Derived/RowKit3.lean). Part the cases AHEAD of 'go_enter' where a test parts the walk; take each callee by a contract of your own. -/
theorem walk (a0 : Int) (a1 : Int) (w0 : (Lit.int .i64 a0).wf = true) (w1 : (Lit.int .i32 a1).wf = true) (w : World) :
    Calls Trym.prog 3 #[.int .i64 a0, .int .i32 a1] w fun e w' => e = .returned (.bool true) ∧ Grown w w' := by
  obtain ⟨b0, b1⟩ := bounds_i64 w0
  obtain ⟨b2, b3⟩ := bounds_i32 w1
  by_cases c1 : a0 < 0
  · go_enter Trym.func3, Trym.ntmps3
    go_wp2
    go_ret
    exact ⟨rfl, Grown.refl _⟩
  by_cases c2 : 4294967296 < a0
  · go_enter Trym.func3, Trym.ntmps3
    go_wp2
    go_ret
    exact ⟨rfl, Grown.refl _⟩
  by_cases c3 : a1 < 0
  · go_enter Trym.func3, Trym.ntmps3
    go_wp2
    go_ret
    exact ⟨rfl, Grown.refl _⟩
  have g0 : 0 ≤ a0 := by omega
  have g1 : a0 ≤ 4294967296 := by omega
  have g2 : 0 ≤ a1 := by omega
  obtain ⟨hm0, hm1⟩ := mul_bounds a0 a1 g0 g1 g2 b3
  clear b0 b1
  by_cases c4 : 100 * (a0 * a1 / 100) = a0 * a1
  · go_enter Trym.func3, Trym.ntmps3
    go_wp2_with fail
    refine (scale_down _ _ _ g0 g1 g2 b3).mono ?_
    rintro e w' ⟨rfl, rfl⟩
    go_wp2_with fail
    refine (scale_up _ _ _ g0 g1 g2 b3).mono ?_
    rintro e w' ⟨rfl, rfl⟩
    have HC : Hid (100 * (a0 * a1 / 100) = a0 * a1) := c4
    clear c4
    have c4 : (100 * (a0 * a1 / 100) == a0 * a1) = true := by simpa using HC.out
    have c5 : ((a0 * a1 + 99) / 100 == a0 * a1 / 100) = true := by have := HC.out; simp; omega
    go_wp2
    go_ret
    exact ⟨rfl, Grown.refl _⟩
  · go_enter Trym.func3, Trym.ntmps3
    go_wp2_with fail
    refine (scale_down _ _ _ g0 g1 g2 b3).mono ?_
    rintro e w' ⟨rfl, rfl⟩
    go_wp2_with fail
    refine (scale_up _ _ _ g0 g1 g2 b3).mono ?_
    rintro e w' ⟨rfl, rfl⟩
    have HC : Hid (¬ 100 * (a0 * a1 / 100) = a0 * a1) := c4
    clear c4
    have c4 : (100 * (a0 * a1 / 100) == a0 * a1) = false := by simpa using HC.out
    have c5 : ((a0 * a1 + 99) / 100 == a0 * a1 / 100 + 1) = true := by have := HC.out; simp; omega
    go_wp2
    go_ret
    exact ⟨rfl, Grown.refl _⟩

/-! ### THE ROW's STEP: WRITTEN OUT: LEAVE IT -/
set_option maxRecDepth 100000 in
theorem lifted (os : Os) (started : os.Started) (H : Type) (enc : TypeId × Value → H) :
    ReturnsInHanded {} Trym.checked os 3 .any (Rows.fnScaleBracketsTheExactShareSpec.pre6 enc Trym.prog Trym.f3 Rows.fnScaleBracketsTheExactShareRow.domain false) (Rows.fnScaleBracketsTheExactShareSpec.post enc Trym.prog Trym.f3 false true false false) := by
  refine returnsInHanded_of_change (C := Trym.checked) own started (by kernel_rfl) Trym.func3
    (ChangeSpec.witness6 (enc := enc) (C := Trym.checked) false ⟨#[], #[.int .i64 0, .int .i32 0], []⟩ 8 (by kernel_rfl) (by kernel_rfl) (by kernel_rfl) (by kernel_rfl)) ?_
  intro W base args ds gs before hval0 hW hcnd _
  have hval : ∀ (j : Nat) t v, Trym.f3.params[j]? = some t → args[j]? = some v → Value.okWide Trym.prog W .any base t v := hval0
  have hW' := hW
  obtain ⟨p, q, hA0, hV, rfl, hfz, hnd⟩ := hW
  have hA : DataW.TrodAll enc Trym.prog W 0 (fun _ => true) true Trym.f3.params.toList args.toList ds p := hA0
  rw [Trym.params3] at hA hval
  obtain ⟨v0, vs0, d0, ds0, p0, q0, hargs, rfl, rfl, h0, r0⟩ := trodAll_cons hA
  obtain ⟨v1, vs1, d1, ds1, p1, q1, rfl, rfl, rfl, h1, r1⟩ := trodAll_cons r0
  obtain ⟨rfl, rfl, rfl⟩ := trodAll_nil r1
  obtain rfl : args = #[v0, v1] := by cases args; simp_all
  obtain ⟨rfl, rfl⟩ := trodVars_none hV
  obtain ⟨a0, rfl, rfl, rfl, w0⟩ := open_int Trym.underlying2 (hval 0 2 v0 rfl rfl) h0
  obtain ⟨a1, rfl, rfl, rfl, w1⟩ := open_int Trym.underlying21 (hval 1 21 v1 rfl rfl) h1
  clear hA0 hval0
  simp only [List.append_nil] at hW'
  refine (walk a0 a1 w0 w1 W).mono fun e W' ⟨he, hg⟩ => ?_
  subst he
  exact ⟨_, rfl, post_of_same (pa := []) (pv := []) hW' (fun _ _ _ => (trodAll_cons_mk (shut_bool Trym.underlying4 _) trodAll_mk0)) (fun sp _ => (trodAll_cons_mk (shut_int Trym.underlying2 w0) (trodAll_cons_mk (shut_int Trym.underlying21 w1) trodAll_mk0))) (fun _ _ => rfl) rfl
    (hg.frame _) hg.2.1 (ok_one (by kernel_rfl) rfl (okWide_bool_mk Trym.underlying4 _))⟩

theorem over : Rows.fnScaleBracketsTheExactShareRow.holds Trym.pinned (OpenSpec.ofChange Rows.fnScaleBracketsTheExactShareSpec) :=
  OpenClaim.holds_of_wide 3 Trym.f3 rfl rfl rfl rfl rfl rfl rfl ⟨rfl, rfl, rfl, rfl, rfl⟩ rfl rfl rfl rfl rfl (by kernel_rfl) Trym.func3 (by kernel_rfl)
    (of_decide_eq_true (by kernel_rfl)) (by unfold Func.isWrapper; first | (rw [if_pos (by decide +kernel)]; kernel_rfl) | (rw [if_neg (by decide +kernel)]; exact ⟨rfl, rfl⟩))
    (fun os started H enc _ => lifted os started H enc)

/-- ████ THE STATEMENT ████ -/
theorem proved : Rows.FnScaleBracketsTheExactShareSaid :=
  over
end Go.Proofs.Qxb6608573aMods.fnScaleBracketsTheExactShare
