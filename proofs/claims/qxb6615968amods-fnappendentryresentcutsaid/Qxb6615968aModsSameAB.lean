/-
  sameAB (21).
-/
import Derived.Test.Qxb6615968aModsSame
namespace Go.Proofs.Qxb6615968aMods.Cut
open Go Go.RowKit

/-- What is read of an ABMessage's cells. -/
structure IsAB (X : Array Value) (k : Int) (R : List Value) (to rk : Int) : Prop where
  c0 : X[0]? = some (.int .u8 k)
  c80 : X[80]? = some (.int .i64 0)
  c81 : X[81]? = some (.slice none 0 0)
  c82 : X[82]? = some (.int .u64 0)
  c83 : X[83]? = some (.bool false)
  c84 : X[84]? = some (.slice none 0 0)
  c85 : X[85]? = some (.slice none 0 0)
  c94 : X[94]? = some (.int .i64 0)
  c95 : X[95]? = some (.int .u64 0)
  c96 : X[96]? = some (.int .u64 0)
  c97 : X[97]? = some (.int .i64 to)
  c98 : X[98]? = some (.int .u8 rk)
  rb : ∀ j u, R[j]? = some u → X[1 + j]? = some u

theorem ab_mid (k to rk : Int) {R : List Value} (h : R.length = 36) (i : Nat) (hi : i < 60) : (abCells k R to rk).toArray[37 + i]? = t60[i]? := by
  have e := t60_len
  rw [List.getElem?_toArray, show 37 + i = (36 + i) + 1 by omega, abCells, List.getElem?_cons_succ, List.getElem?_append_right (by omega), h, List.getElem?_append_left (by omega), show 36 + i - 36 = i by omega]
theorem ab_is (k to rk : Int) {R : List Value} (h : R.length = 36) : IsAB (abCells k R to rk).toArray k R to rk where
  c0 := by simp [abCells]
  c80 := (ab_mid k to rk h 43 (by omega)).trans (by kernel_rfl)
  c81 := (ab_mid k to rk h 44 (by omega)).trans (by kernel_rfl)
  c82 := (ab_mid k to rk h 45 (by omega)).trans (by kernel_rfl)
  c83 := (ab_mid k to rk h 46 (by omega)).trans (by kernel_rfl)
  c84 := (ab_mid k to rk h 47 (by omega)).trans (by kernel_rfl)
  c85 := (ab_mid k to rk h 48 (by omega)).trans (by kernel_rfl)
  c94 := (ab_mid k to rk h 57 (by omega)).trans (by kernel_rfl)
  c95 := (ab_mid k to rk h 58 (by omega)).trans (by kernel_rfl)
  c96 := (ab_mid k to rk h 59 (by omega)).trans (by kernel_rfl)
  c97 := by simpa using ab_get97 k to rk h
  c98 := by simpa using ab_get98 k to rk h
  rb := fun j u hj => by
    have hl := (List.getElem?_eq_some_iff.1 hj).1
    rw [List.getElem?_toArray, show 1 + j = j + 1 by omega, abCells, List.getElem?_cons_succ, List.getElem?_append_left hl]; exact hj

set_option maxHeartbeats 1600000 in
set_option maxRecDepth 100000 in
theorem sameAB_core (X Y : Array Value) (k to rk : Int) (m : Msg) (v v' : Value) (w : World) (hX : IsAB X k (m.cells v) to rk) (hY : IsAB Y k (m.cells v') to rk) (hm : m.ok) (hv : PayAt w v m.p) (hv' : PayAt w v' m.p) :
    Calls Trym.prog 21 #[.agg X, .agg Y] w fun e w' => e = .returned (.bool true) ∧ Below w.heap.size w w' := by
  obtain ⟨x0, x80, x81, x82, x83, x84, x85, x94, x95, x96, x97, x98, xr⟩ := hX
  obtain ⟨y0, y80, y81, y82, y83, y84, y85, y94, y95, y96, y97, y98, yr⟩ := hY
  have HM : Hid m.ok := hm
  have HV : Hid (PayAt w v m.p) := hv
  have HV' : Hid (PayAt w v' m.p) := hv'
  clear hm hv hv'
  have hr1 : ((w.alloc (.cells X 73)).alloc (.cells Y 73)).rangeAt w.heap.size 1 (m.cells v) := fun j u hj => by
    rw [cell_of_row _ _ _ _ _ _ (heap_alloc2_old w (.cells X 73) (.cells Y 73))]; exact xr j u hj
  have hr2 : ((w.alloc (.cells X 73)).alloc (.cells Y 73)).rangeAt (w.heap.size + 1) 1 (m.cells v') := fun j u hj => by
    rw [cell_of_row _ _ _ _ _ _ (heap_alloc2_new w (.cells X 73) (.cells Y 73))]; exact yr j u hj
  have HBEL : Hid (Below w.heap.size w ((w.alloc (.cells X 73)).alloc (.cells Y 73))) := (two_new rfl).2.2
  clear xr yr
  go_enter Trym.func21, Trym.ntmps21
  simp only [List.append]
  go_wp2_with (first | (refine wpList_load_wanted rfl 54 (.tmp 11) rfl w.heap.size 1 rfl (m.cells v) _ hr1 Trym.underlying54 rfl (by rw [Msg.len HM.out]; kernel_rfl) ?_) | (refine wpList_load_wanted rfl 54 (.tmp 13) rfl (w.heap.size + 1) 1 rfl (m.cells v') _ hr2 Trym.underlying54 rfl (by rw [Msg.len HM.out]; kernel_rfl) ?_))
  refine (sameRB_any m v v' _ HM.out (HV.out.up HBEL.out) (HV'.out.up HBEL.out)).mono ?_
  rintro e w1 ⟨rfl, hb1⟩
  have hx1 : ∀ i, w1.cell? ⟨w.heap.size, i, none⟩ = X[i]? := fun i => cell_of_row _ _ _ _ _ _ (blk_keep hb1 (heap_alloc2_old w (.cells X 73) (.cells Y 73)))
  have hy1 : ∀ i, w1.cell? ⟨w.heap.size + 1, i, none⟩ = Y[i]? := fun i => cell_of_row _ _ _ _ _ _ (blk_keep hb1 (heap_alloc2_new w (.cells X 73) (.cells Y 73)))
  have HB3 : Hid (Below w.heap.size w w1) := below_up HBEL.out hb1
  clear hb1 HBEL hr1 hr2 HV HV'
  go_wp2
  go_ret
  exact ⟨rfl, HB3.out⟩

theorem sameAB_any (k to rk : Int) (m : Msg) (v v' : Value) (w : World) (hm : m.ok) (hv : PayAt w v m.p) (hv' : PayAt w v' m.p) :
    Calls Trym.prog 21 #[.agg (abCells k (m.cells v) to rk).toArray, .agg (abCells k (m.cells v') to rk).toArray] w fun e w' => e = .returned (.bool true) ∧ Below w.heap.size w w' :=
  sameAB_core _ _ k to rk m v v' w (ab_is k to rk (Msg.len hm v)) (ab_is k to rk (Msg.len hm v')) hm hv hv'
end Go.Proofs.Qxb6615968aMods.Cut
