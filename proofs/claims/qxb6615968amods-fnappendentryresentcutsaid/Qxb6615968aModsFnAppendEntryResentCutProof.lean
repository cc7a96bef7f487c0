/-
  The proof of 'Rows.FnAppendEntryResentCutSaid': the row's step over the walks 'law_nil' and 'law_some'.
-/
import Derived.Test.Qxb6615968aModsRows
import Derived.WalkKit
import Derived.ProofKit
import Derived.OpenShut
import Derived.ShutString
import Derived.ChangeOld
import Derived.Below
import Derived.Test.Qxb6615968aModsOpen
import Derived.Test.Qxb6615968aModsLawNil
import Derived.Test.Qxb6615968aModsLawSome
namespace Go.Proofs.Qxb6615968aMods.fnAppendEntryResentCut
open Go.ChangeShapes Go.WideShapes Go.ChangeAt Go.RowKit
open Go.ChangeMaps (open_string shut_string)
set_option linter.unusedVariables false

theorem own : ownKnob Trym.prog.godebug = none := by kernel_rfl
theorem laidOut : laidOutB Trym.prog = true := by kernel_rfl

/-! ### THE ROW's STEP: WRITTEN OUT: LEAVE IT -/
set_option maxRecDepth 100000 in
theorem lifted (os : Os) (started : os.Started) (H : Type) (enc : TypeId × Value → H) :
    ReturnsInHanded {} Trym.checked os 5 .any (Rows.fnAppendEntryResentCutSpec.pre6 enc Trym.prog Trym.f5 Rows.fnAppendEntryResentCutRow.domain false) (Rows.fnAppendEntryResentCutSpec.post enc Trym.prog Trym.f5 false true false false) := by
  refine returnsInHanded_of_change (C := Trym.checked) own started (by kernel_rfl) Trym.func5
    (ChangeSpec.witness6 (enc := enc) (C := Trym.checked) false ⟨#[], #[.int .i64 0, .int .i64 0, .bool false, .slice none 0 0, .slice none 0 0, .slice none 0 0, .int .i64 0], []⟩ 8 (by kernel_rfl) (by kernel_rfl) (by kernel_rfl) (by kernel_rfl)) ?_
  intro W base args ds gs before hval0 hW hcnd _
  have hval : ∀ (j : Nat) t v, Trym.f5.params[j]? = some t → args[j]? = some v → Value.okWide Trym.prog W .any base t v := hval0
  have hW' := hW
  obtain ⟨p, q, hA0, hV, rfl, hfz, hnd⟩ := hW
  have hA : DataW.TrodAll enc Trym.prog W 0 (fun _ => true) true Trym.f5.params.toList args.toList ds p := hA0
  rw [Trym.params5] at hA hval
  obtain ⟨v0, vs0, d0, ds0, p0, q0, hargs, rfl, rfl, h0, r0⟩ := trodAll_cons hA
  obtain ⟨v1, vs1, d1, ds1, p1, q1, rfl, rfl, rfl, h1, r1⟩ := trodAll_cons r0
  obtain ⟨v2, vs2, d2, ds2, p2, q2, rfl, rfl, rfl, h2, r2⟩ := trodAll_cons r1
  obtain ⟨v3, vs3, d3, ds3, p3, q3, rfl, rfl, rfl, h3, r3⟩ := trodAll_cons r2
  obtain ⟨v4, vs4, d4, ds4, p4, q4, rfl, rfl, rfl, h4, r4⟩ := trodAll_cons r3
  obtain ⟨v5, vs5, d5, ds5, p5, q5, rfl, rfl, rfl, h5, r5⟩ := trodAll_cons r4
  obtain ⟨v6, vs6, d6, ds6, p6, q6, rfl, rfl, rfl, h6, r6⟩ := trodAll_cons r5
  obtain ⟨rfl, rfl, rfl⟩ := trodAll_nil r6
  obtain rfl : args = #[v0, v1, v2, v3, v4, v5, v6] := by cases args; simp_all
  obtain ⟨rfl, rfl⟩ := trodVars_none hV
  obtain ⟨a0, rfl, rfl, rfl, w0⟩ := open_int Trym.underlying3 (hval 0 3 v0 rfl rfl) h0
  obtain ⟨a1, rfl, rfl, rfl, w1⟩ := open_int Trym.underlying3 (hval 1 3 v1 rfl rfl) h1
  obtain ⟨a2, rfl, rfl, rfl⟩ := open_bool Trym.underlying4 (hval 2 4 v2 rfl rfl) h2
  have k3 := h3
  have lt3 : ∀ x ∈ p3, x.block < W.heap.size := by obtain ⟨m, hm⟩ := k3; exact DataW.trod_lt m _ _ _ hm
  have k4 := h4
  have lt4 : ∀ x ∈ p4, x.block < W.heap.size := by obtain ⟨m, hm⟩ := k4; exact DataW.trod_lt m _ _ _ hm
  have k5 := h5
  have lt5 : ∀ x ∈ p5, x.block < W.heap.size := by obtain ⟨m, hm⟩ := k5; exact DataW.trod_lt m _ _ _ hm
  obtain ⟨a6, rfl, rfl, rfl, w6⟩ := open_int Trym.underlying3 (hval 6 3 v6 rfl rfl) h6
  clear hA0 hval0
  obtain ⟨a3, len3, cap3, rfl⟩ := okWide_slice Trym.underlying30 (hval 3 30 v3 rfl rfl)
  obtain ⟨n4, ko4, ms4, vs4, s4, e4⟩ : ∃ n ko ms vs, Cut.SrcOut W v4 n ko ms vs ∧ ∀ i, i < n → (ms i).d.length = 32 := by
    obtain ⟨a4, len4, cap4, rfl⟩ := okWide_slice Trym.underlying31 (hval 4 31 v4 rfl rfl)
    obtain ⟨fuel, hf⟩ := h4
    obtain ⟨v, n, ko, ms, vs, hv, hs, he⟩ := Cut.open_outs hf
    have hv' : Value.slice a4 len4 cap4 = v := by simpa [Value.cells] using hv
    rw [hv']
    exact ⟨n, ko, ms, vs, hs, he⟩
  obtain ⟨n5, ms5, vs5, s5, e5⟩ : ∃ n ms vs, Cut.SrcRB W v5 n ms vs ∧ ∀ i, i < n → (ms i).d.length = 32 := by
    obtain ⟨a5, len5, cap5, rfl⟩ := okWide_slice Trym.underlying32 (hval 5 32 v5 rfl rfl)
    obtain ⟨fuel, hf⟩ := h5
    obtain ⟨v, n, ms, vs, hv, hs, he⟩ := Cut.open_msgs hf
    have hv' : Value.slice a5 len5 cap5 = v := by simpa [Value.cells] using hv
    rw [hv']
    exact ⟨n, ms, vs, hs, he⟩
  have hwalk : Calls Trym.prog 5 #[.int .i64 a0, .int .i64 a1, .bool a2, .slice a3 len3 cap3, v4, v5, .int .i64 a6] W fun e w' => e = .returned (.bool true) ∧ Below W.heap.size W w' := by
    obtain ⟨fuel, hf⟩ := h3
    rcases Cut.open_owed hf with hcs | ⟨x, l, c, zs, hcs, hl, hz⟩
    · simp [Value.cells] at hcs
      obtain ⟨rfl, rfl, rfl⟩ := hcs
      exact Cut.law_nil a0 a1 a6 a2 0 0 n4 n5 v4 v5 ko4 ms4 ms5 vs4 vs5 W ⟨rfl, rfl⟩ s4 s5 e4 e5
    · simp [Value.cells] at hcs
      obtain ⟨rfl, rfl, rfl⟩ := hcs
      exact Cut.law_some a0 a1 a6 a2 x len3 cap3 n4 n5 zs v4 v5 ko4 ms4 ms5 vs4 vs5 W ⟨hl, hz⟩ s4 s5 e4 e5
  refine hwalk.mono fun e W' ⟨he, bel⟩ => ?_
  subst he
  exact ⟨_, rfl, _, _, _, [], _, [], hW', trodAll_mk1 (shut_bool Trym.underlying4 _), (trodAll_cons_mk (shut_int Trym.underlying3 w0) (trodAll_cons_mk (shut_int Trym.underlying3 w1) (trodAll_cons_mk (shut_bool Trym.underlying4 _) (trodAll_cons_mk (Below.trod laidOut (by kernel_rfl) (of_decide_eq_true (by kernel_rfl)) k3 bel lt3) (trodAll_cons_mk (Below.trod laidOut (by kernel_rfl) (of_decide_eq_true (by kernel_rfl)) k4 bel lt4) (trodAll_cons_mk (Below.trod laidOut (by kernel_rfl) (of_decide_eq_true (by kernel_rfl)) k5 bel lt5) (trodAll_cons_mk (shut_int Trym.underlying3 w6) trodAll_mk0))))))), rfl, bel.frame _, fun h => by cases h⟩

theorem over : Rows.fnAppendEntryResentCutRow.holds Trym.pinned (OpenSpec.ofChange Rows.fnAppendEntryResentCutSpec) :=
  OpenClaim.holds_of_wide 5 Trym.f5 rfl rfl rfl rfl rfl rfl rfl ⟨rfl, rfl, rfl, rfl, rfl⟩ rfl rfl rfl rfl rfl (by kernel_rfl) Trym.func5 (by kernel_rfl)
    (of_decide_eq_true (by kernel_rfl)) (by unfold Func.isWrapper; first | (rw [if_pos (by decide +kernel)]; kernel_rfl) | (rw [if_neg (by decide +kernel)]; exact ⟨rfl, rfl⟩))
    (fun os started H enc _ => lifted os started H enc)

/-- ████ THE STATEMENT ████ -/
theorem proved : Rows.FnAppendEntryResentCutSaid := over
end Go.Proofs.Qxb6615968aMods.fnAppendEntryResentCut
