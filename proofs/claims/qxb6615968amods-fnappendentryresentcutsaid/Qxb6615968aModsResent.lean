/-
  Nodes (36), resentFor (34), owe (35), newArchive (16), newSentEntry (17).
-/
import Derived.Test.Qxb6615968aModsOuts
import Derived.Deep.WholeRow
namespace Go.Proofs.Qxb6615968aMods.Cut
open Go Go.RowKit

theorem all_set {X : Array Value} {p : Value → Bool} (h : X.all p = true) (i : Nat) {v : Value} (hv : p v = true) : (X.setIfInBounds i v).all p = true := by
  rw [Array.all_eq_true_iff_forall_mem] at h ⊢
  intro x hx
  obtain ⟨j, hj, rfl⟩ := Array.mem_iff_getElem.1 hx
  rw [Array.getElem_setIfInBounds (by simpa using hj)]
  split
  · exact hv
  · exact h _ (Array.getElem_mem _)
theorem wpList_store_row {P : Program} {ops : Array Oper} {rest : List Oper} {o : Oper} {a : Act} {w : World} {Q : Exit → Act → World → Prop} (hgd : o.guard = none) (ty : TypeId) (x y : Operand) (ho : o.op = .store ty x y)
    (g : Nat) (cells : Array Value) (hx : a.eval x = .pointer (some ⟨g, 0, none⟩)) (hy : a.eval y = .agg cells)
    (t : TypeId) (old : Array Value) (hg : w.heap[g]? = some (.cells old t (0, 0))) (hi : (P.info? ty).map (·.size) = some cells.size)
    (hold : old.size = cells.size) (h1 : cells.all (·.oneCell') = true)
    (h : wpList P ops Q rest (a.put o.dst undef) (w.setRow g cells)) : wpList P ops Q (o :: rest) a w :=
  wpList_plain hgd fun _ hK => wp_store_row ty x y ho g cells hx hy t old hg hi hold h1 (hK _ _ h)

theorem nodes_any (n : Int) (w : World) : Calls Trym.prog 36 #[.agg #[.int .i64 n]] w fun e w' => e = .returned (.int .i64 n) ∧ w.alloc (.cells #[.int .i64 n] 86) = w' := by
  go_enter Trym.func36, Trym.ntmps36
  go_wp2
  go_ret
  exact ⟨rfl, rfl⟩

theorem archive_any (n : Int) (w : World) : Calls Trym.prog 16 #[.int .i64 n] w fun e w' => e = .returned (.pointer (some ⟨w.heap.size, 0, none⟩)) ∧ (∃ C, w.alloc (.cells C 95) = w' ∧ C[0]? = some (.int .i64 n)) := by
  go_enter Trym.func16, Trym.ntmps16
  go_wp2
  go_ret
  exact ⟨rfl, _, rfl, rfl⟩

theorem entry_any (v1 v2 : Value) (ao : Option Addr) (n c : Nat) (ao' : Option Addr) (n' c' : Nat) (ew : Bool) (hv1 : v1 = .slice ao n c) (hv2 : v2 = .slice ao' n' c') (w : World) :
    Calls Trym.prog 17 #[v1, .slice none 0 0, .bool ew, v2] w fun e w' => e = .returned (.pointer (some ⟨w.heap.size, 0, none⟩)) ∧ w.alloc (.cells #[v1, .slice none 0 0, .bool ew, v2] 97) = w' := by
  subst hv1 hv2
  go_enter Trym.func17, Trym.ntmps17
  go_wp2
  go_ret
  exact ⟨rfl, rfl⟩

set_option maxHeartbeats 1600000 in
set_option maxRecDepth 100000 in
theorem resent_any (X : Array Value) (k to : Int) (u97 u98 : Value) (w : World) (hs : X.size = 99) (h0 : X[0]? = some (.int .u8 k)) (h97 : X[97]? = some u97) (h98 : X[98]? = some u98) (h1 : X.all (·.oneCell') = true) :
    Calls Trym.prog 34 #[.agg X, .int .i64 to] w fun e w' => e = .returned (.agg (((X.setIfInBounds 97 (.int .i64 to)).setIfInBounds 98 (.int .u8 k)).setIfInBounds 0 (.int .u8 9))) ∧ Below w.heap.size w w' := by
  obtain ⟨hz, _⟩ := zero_of_info (P := Trym.prog) (t := 73) (v := .agg (abCells 0 rb0 0 0).toArray) (n := 99) (by kernel_rfl)
  obtain ⟨z, hzz⟩ : ∃ z, z = (abCells 0 rb0 0 0).toArray := ⟨_, rfl⟩
  rw [← hzz] at hz
  have hzs : z.size = 99 := by rw [hzz]; decide +kernel
  clear hzz
  have H1 : Hid (X.all (·.oneCell') = true) := h1
  have HS : Hid (X.size = 99) := hs
  have HZ : Hid (z.size = 99) := hzs
  clear h1 hs hzs
  go_enter Trym.func34, Trym.ntmps34
  have hY : (((X.setIfInBounds 97 (.int .i64 to)).setIfInBounds 98 (.int .u8 k)).setIfInBounds 0 (.int .u8 9)).size = 99 := by simpa using HS.out
  have H2 : Hid ((((X.setIfInBounds 97 (.int .i64 to)).setIfInBounds 98 (.int .u8 k)).setIfInBounds 0 (.int .u8 9)).all (·.oneCell') = true) := all_set (all_set (all_set H1.out _ rfl) _ rfl) _ rfl
  have HY : Hid ((((X.setIfInBounds 97 (.int .i64 to)).setIfInBounds 98 (.int .u8 k)).setIfInBounds 0 (.int .u8 9)).size = 99) := hY
  clear hY H1
  go_wp2_with (first | (refine wpList_load_row rfl 73 (.tmp 2) rfl w.heap.size rfl 73 (((X.setIfInBounds 97 (.int .i64 to)).setIfInBounds 98 (.int .u8 k)).setIfInBounds 0 (.int .u8 9)) (0, 0) _ (heap_alloc2_old w _ _) Trym.underlying73 rfl (by rw [HY.out]; kernel_rfl) ?_) | (refine wpList_store_row rfl 73 (.tmp 4) (.tmp 11) rfl (w.heap.size + 1) (((X.setIfInBounds 97 (.int .i64 to)).setIfInBounds 98 (.int .u8 k)).setIfInBounds 0 (.int .u8 9)) rfl rfl 73 z (heap_alloc2_new w _ _) (by rw [HY.out]; kernel_rfl) (by rw [HY.out, HZ.out]) H2.out ?_))
  exact bodyPost_ret (v := .agg (((X.setIfInBounds 97 (.int .i64 to)).setIfInBounds 98 (.int .u8 k)).setIfInBounds 0 (.int .u8 9))) (results_cell_row Trym.results34 _ _ (w.heap.size + 1) 73 _ (0, 0) _ rfl (setRow_heap _ _ _ _ _ _ (heap_alloc2_new w _ _)) Trym.underlying73 rfl (by rw [HY.out]; kernel_rfl)) rfl
    ⟨rfl, below_setRow (((Below.refl _ _).alloc (Nat.le_refl _) _).alloc (by simp) _) (by omega) _⟩
end Go.Proofs.Qxb6615968aMods.Cut
