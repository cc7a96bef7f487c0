/-
  owe (35).
-/
import Derived.Test.Qxb6615968aModsResent
namespace Go.Proofs.Qxb6615968aMods.Cut
open Go Go.RowKit

/-- All blocks but two are as they were. -/
structure But (be bo : Nat) (w w' : World) : Prop where
  os : w'.os = w.os
  tape : w'.tape = w.tape
  output : w'.output = w.output
  size : w.heap.size ≤ w'.heap.size
  block : ∀ k, k < w.heap.size → k ≠ be → k ≠ bo → w'.heap[k]? = w.heap[k]?
theorem But.refl (be bo : Nat) (w : World) : But be bo w w := ⟨rfl, rfl, rfl, Nat.le_refl _, fun _ _ _ _ => rfl⟩
theorem But.alloc {be bo : Nat} {a w : World} (h : But be bo a w) (o : Obj) : But be bo a (w.alloc o) :=
  ⟨h.os, h.tape, h.output, by have := h.size; simp; omega, fun k hk h1 h2 => by rw [Below.heap_alloc _ _ _ (Nat.lt_of_lt_of_le hk h.size)]; exact h.block k hk h1 h2⟩
theorem But.set {be bo : Nat} {a w : World} (h : But be bo a w) {p : Addr} (hp : p.block = be ∨ p.block = bo ∨ a.heap.size ≤ p.block) (v : Value) : But be bo a (w.setCell p v) :=
  ⟨h.os, h.tape, h.output, by have := h.size; simpa [World.setCell] using this, fun k hk h1 h2 => by
    rw [Below.heap_setCell _ _ _ _ (by rcases hp with hp | hp | hp <;> omega)]; exact h.block k hk h1 h2⟩
theorem But.below {be bo B : Nat} {w w' : World} (h : But be bo w w') (h1 : B ≤ be) (h2 : B ≤ bo) (h3 : B ≤ w.heap.size) : Below B w w' :=
  ⟨h.os, h.tape, h.output, h.size, fun k hk => h.block k (by omega) (by omega) (by omega)⟩

/-- What is owed: nil, or a row of bools of its own. -/
def Owed (w : World) (vo : Value) (n be bo : Nat) : Prop :=
  (vo = .slice none 0 0 ∧ bo = be) ∨ (vo = .slice (some ⟨bo, 0, none⟩) n n ∧ ∃ C, w.heap[bo]? = some (.cells C 4 (0, 0)) ∧ C.size = n)

theorem cells_of_entry {w : World} {be : Nat} {vm vr vo : Value} {ew : Bool} (h : w.heap[be]? = some (.cells #[vm, vr, .bool ew, vo] 97 (0, 0))) :
    w.cell? ⟨be, 0, none⟩ = some vm ∧ w.cell? ⟨be, 2, none⟩ = some (.bool ew) ∧ w.cell? ⟨be, 3, none⟩ = some vo ∧ w.frozen? ⟨be, 3, none⟩ = false ∧ be < w.heap.size := by
  refine ⟨?_, ?_, ?_, frozen_of_row w be 3 _ 97 h, lt_of_blk h⟩ <;> rw [cell_of_row _ _ _ _ _ _ h] <;> rfl

theorem cell_size {w : World} {b j n : Nat} {C : Array Value} {t : TypeId} (h : w.heap[b]? = some (.cells C t (0, 0))) (hs : C.size = n) (hj : j < n) : ∃ u, w.cell? ⟨b, j, none⟩ = some u := by
  rw [cell_of_row _ _ _ _ _ _ h]
  exact ⟨C[j]'(by omega), Array.getElem?_eq_getElem (by omega)⟩

set_option maxHeartbeats 800000 in
theorem owe_no (be n : Nat) (to : Int) (vm vr vo : Value) (w : World) (hb : w.heap[be]? = some (.cells #[vm, vr, .bool false, vo] 97 (0, 0))) :
    Calls Trym.prog 35 #[.pointer (some ⟨be, 0, none⟩), .int .i64 to, .int .i64 n] w fun e w' => e = .returned (.tuple #[]) ∧ w' = w := by
  obtain ⟨_, h2, _, _, _⟩ := cells_of_entry hb
  clear hb
  go_enter Trym.func35, Trym.ntmps35
  go_wp2
  exact bodyPost_ret (results_none Trym.results35 _ _ _) rfl ⟨rfl, rfl⟩

set_option maxHeartbeats 800000 in
theorem owe_old (be bo n j : Nat) (vm vr : Value) (w : World) (hn : n ≤ 65536) (hj : j < n) (hb : w.heap[be]? = some (.cells #[vm, vr, .bool true, .slice (some ⟨bo, 0, none⟩) n n] 97 (0, 0)))
    (C : Array Value) (hC : w.heap[bo]? = some (.cells C 4 (0, 0))) (hs : C.size = n) :
    Calls Trym.prog 35 #[.pointer (some ⟨be, 0, none⟩), .int .i64 ((j : Int) + 1), .int .i64 n] w fun e w' => e = .returned (.tuple #[]) ∧ But be bo w w' := by
  have hnil := fun (w : World) (a : Option Addr) (n c : Nat) => Lib.run_eql_slice_nil (P := Trym.prog) w 30 4 a n c 0 0 Trym.underlying30
  obtain ⟨_, h2, h3, _, _⟩ := cells_of_entry hb
  obtain ⟨u, hu⟩ := cell_size hC hs hj
  have hf : w.frozen? ⟨bo, j, none⟩ = false := frozen_of_row w bo j C 4 hC
  clear hb hC hs
  go_enter Trym.func35, Trym.ntmps35
  go_wp2
  exact bodyPost_end (results_none Trym.results35 _ _ _) rfl ⟨rfl, (But.refl _ _ _).set (p := ⟨bo, j, none⟩) (Or.inr (Or.inl rfl)) _⟩

set_option maxHeartbeats 800000 in
theorem owe_new (be n j : Nat) (vm vr : Value) (w : World) (hn : n ≤ 65536) (hj : j < n) (hb : w.heap[be]? = some (.cells #[vm, vr, .bool true, .slice none 0 0] 97 (0, 0))) :
    Calls Trym.prog 35 #[.pointer (some ⟨be, 0, none⟩), .int .i64 ((j : Int) + 1), .int .i64 n] w fun e w' => e = .returned (.tuple #[]) ∧ But be be w w' := by
  have hnil := fun (w : World) (a : Option Addr) (n c : Nat) => Lib.run_eql_slice_nil (P := Trym.prog) w 30 4 a n c 0 0 Trym.underlying30
  have hmk := run_make_row' (P := Trym.prog) 30 4 (.bool false) 1 Trym.underlying30 Trym.bytes4 rfl .i64 .i64 n (by omega) (by omega)
  obtain ⟨_, h2, h3, h4, h5⟩ := cells_of_entry hb
  have hne : w.heap.size ≠ be := by omega
  have hmc : (madeCells #[.bool false] n)[j]? = some (.bool false) := by simp [madeCells, hj, Nat.mod_one]
  clear hb
  go_enter Trym.func35, Trym.ntmps35
  go_wp2
  exact bodyPost_end (results_none Trym.results35 _ _ _) rfl ⟨rfl, ((But.refl _ _ _).set (p := ⟨be, 3, none⟩) (Or.inl rfl) _).alloc _⟩

/-- owe, whatever is owed. -/
theorem owe_any (be bo n : Nat) (to : Int) (vm vr vo : Value) (ew : Bool) (w : World) (hn : n ≤ 65536) (h1 : 1 ≤ to) (h2 : to ≤ n) (hb : w.heap[be]? = some (.cells #[vm, vr, .bool ew, vo] 97 (0, 0))) (ho : Owed w vo n be bo) :
    Calls Trym.prog 35 #[.pointer (some ⟨be, 0, none⟩), .int .i64 to, .int .i64 n] w fun e w' => e = .returned (.tuple #[]) ∧ But be bo w w' := by
  obtain ⟨j, rfl⟩ : ∃ j : Nat, to = (j : Int) + 1 := ⟨(to - 1).toNat, by omega⟩
  cases ew with
  | false => exact (owe_no be n _ vm vr vo w hb).mono fun e w' ⟨he, hw⟩ => ⟨he, hw ▸ But.refl _ _ _⟩
  | true =>
    rcases ho with ⟨rfl, _⟩ | ⟨rfl, C, hC, hs⟩
    · exact (owe_new be n j vm vr w hn (by omega) hb).mono fun e w' ⟨he, hw⟩ => ⟨he, hw.os, hw.tape, hw.output, hw.size, fun k hk h1 _ => hw.block k hk h1 h1⟩
    · exact owe_old be bo n j vm vr w hn (by omega) hb C hC hs
end Go.Proofs.Qxb6615968aMods.Cut
