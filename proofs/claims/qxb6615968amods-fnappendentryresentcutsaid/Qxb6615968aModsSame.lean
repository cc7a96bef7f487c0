/-
  sameRB (29), isRB (22), sameAB (21).
-/
import Derived.Test.Qxb6615968aModsAppend
import Derived.ChangeKeysEq
namespace Go.Proofs.Qxb6615968aMods.Cut
open Go Go.RowKit

theorem eqItems_same (d : Nat) (ds : List Int) : ∀ (is : List Nat) (w : World), (∀ i ∈ is, i < ds.length) →
    (Op.eqItems (d + 1) 5 (Trym.prog.cellsOf 5) (ints ds).toArray (ints ds).toArray is).run Trym.prog w = .ok true w
  | [], w, _ => by simp [Op.eqItems]
  | i :: is, w, h => by
    have hi : i < ds.length := h i (by simp)
    have hc : Trym.prog.cellsOf 5 = 1 := by kernel_rfl
    have hpart : (part 5 (ints ds).toArray (i * Trym.prog.cellsOf 5)).run Trym.prog w = .ok (.int .u8 ds[i]) w := by
      have hagg : (isAgg 5).run Trym.prog w = .ok false w := by
        unfold isAgg
        rw [Sem.run_bind, run_underlying Trym.underlying5 w]
        rfl
      rw [hc, Nat.mul_one]
      simp [part, hagg, ints, hi]
    have ih := eqItems_same d ds is w (fun j hj => h j (by simp [hj]))
    simp only [Op.eqItems, Sem.run_bind, hpart, Result.andThen_ok, run_equalIn_int w d 5 .u8 .u8 _ _ Trym.underlying5]
    simpa using ih

theorem dig_same (d : Nat) (ds : List Int) (hd : ds.length = 32) (w : World) :
    (Op.equalIn (d + 2) 52 (.agg (ints ds).toArray) (.agg (ints ds).toArray)).run Trym.prog w = .ok true w := by
  cases hi : Trym.prog.info? 5 with
  | none => have := Trym.bytes5; rw [hi] at this; cases this
  | some i =>
    rw [run_equalIn_array w (d + 1) _ _ Trym.underlying52 hi]
    exact eqItems_same d ds (List.range 32) w (fun j hj => by rw [hd]; simpa using hj)

/-- A guarded load of many cells, its guard saying yes. -/
theorem wpList_load_wanted {P : Program} {ops : Array Oper} {rest : List Oper} {op : Oper} {a : Act} {w : World} {Q : Exit → Act → World → Prop} (hw : Region.wanted op (yielded ops a.tmps) = true) (ty : TypeId) (x : Operand) (ho : op.op = .load ty x)
    (b o : Nat) (hx : a.eval x = .pointer (some ⟨b, o, none⟩)) (cs : List Value) (d : TypeDesc) (hc : w.rangeAt b o cs)
    (hu : P.underlying ty = some d) (hd : d.isRow = true) (hi : (P.info? ty).map (·.size) = some cs.length)
    (h : wpList P ops Q rest (a.put op.dst (.agg cs.toArray)) w) : wpList P ops Q (op :: rest) a w :=
  BigFrame.wpList_want hw fun _ hK => wp_load_mid ty x ho b o hx cs d hc hu hd hi (hK _ _ h)

theorem dig_range {m : Msg} {v : Value} {w : World} {b : Nat} {t : TypeId} (hm : m.ok) (h : w.heap[b]? = some (.cells (m.cells v).toArray t (0, 0))) : w.rangeAt b 4 (ints m.d) := by
  have := range_of_blk h 4 32
  simp only [Msg.cells, List.drop_succ_cons, List.drop_zero] at this
  rwa [List.take_of_length_le (by rw [ints_len, hm.1]; exact Nat.le_refl _)] at this
theorem range_draws {w : World} {b o : Nat} {cs : List Value} (n : Nat) (h : w.rangeAt b o cs) : (w.drewN n).rangeAt b o cs :=
  range_keep (by rw [(World.drewN_alike w n).1]) h
theorem below_draws {w a : World} {B : Nat} (n : Nat) (h : Below B a w) : Below B a (w.drewN n) :=
  h.trans ⟨(World.drewN_alike w n).2.1, by induction n with
    | zero => rfl
    | succ n ih => exact ih, (World.drewN_alike w n).2.2, by rw [(World.drewN_alike w n).1]; exact Nat.le_refl _, fun k _ => by rw [(World.drewN_alike w n).1]⟩

set_option maxHeartbeats 1600000 in
set_option maxRecDepth 100000 in
theorem sameRB_any (m : Msg) (v v' : Value) (w : World) (hm : m.ok) (hv : PayAt w v m.p) (hv' : PayAt w v' m.p) :
    Calls Trym.prog 29 #[.agg (m.cells v).toArray, .agg (m.cells v').toArray] w fun e w' => e = .returned (.bool true) ∧ Below w.heap.size w w' := by
  have heq := fun (w : World) => dig_same 9998 m.d hm.1 w
  have HM : Hid m.ok := hm
  have HV : Hid (PayAt w v m.p) := hv
  have HV' : Hid (PayAt w v' m.p) := hv'
  clear hm hv hv'
  have HR1 : Hid (((w.alloc (.cells (m.cells v).toArray 54)).alloc (.cells (m.cells v').toArray 54)).rangeAt w.heap.size 4 (ints m.d)) := dig_range HM.out (heap_alloc2_old w _ _)
  have HR2 : Hid (((w.alloc (.cells (m.cells v).toArray 54)).alloc (.cells (m.cells v').toArray 54)).rangeAt (w.heap.size + 1) 4 (ints m.d)) := dig_range HM.out (heap_alloc2_new w _ _)
  have HBEL : Hid (Below w.heap.size w ((w.alloc (.cells (m.cells v).toArray 54)).alloc (.cells (m.cells v').toArray 54))) := (two_new rfl).2.2
  go_enter Trym.func29, Trym.ntmps29
  simp only [Msg.cells] at HR1 HR2 HBEL ⊢
  go_wp2_with fail
  refine (sameBytes_any v v' m.p _ HM.out.2 (HV.out.up HBEL.out) (HV'.out.up HBEL.out)).mono ?_
  rintro e w1 ⟨rfl, nq, rfl⟩
  have hr1 := range_draws nq HR1.out
  have hr2 := range_draws nq HR2.out
  have HB2 := below_draws nq HBEL.out
  clear HR1 HR2 HV HV' HBEL
  have HB3 : Hid _ := HB2
  clear HB2
  go_wp2_with (first | (refine wpList_load_wanted rfl 52 (.tmp 32) rfl w.heap.size 4 rfl (ints m.d) _ hr1 Trym.underlying52 rfl (by rw [ints_len, HM.out.1]; kernel_rfl) ?_) | (refine wpList_load_wanted rfl 52 (.tmp 34) rfl (w.heap.size + 1) 4 rfl (ints m.d) _ hr2 Trym.underlying52 rfl (by rw [ints_len, HM.out.1]; kernel_rfl) ?_))
  go_ret
  exact ⟨rfl, HB3.out⟩

set_option maxHeartbeats 1600000 in
set_option maxRecDepth 100000 in
theorem isRB_any (m : Msg) (v v' : Value) (w : World) (hm : m.ok) (hv : PayAt w v m.p) (hv' : PayAt w v' m.p) :
    Calls Trym.prog 22 #[.agg (m.cells v).toArray, .agg (m.cells v').toArray] w fun e w' => e = .returned (.bool true) ∧ Below w.heap.size w w' := by
  have heq := fun (w : World) => dig_same 9998 m.d hm.1 w
  have HM : Hid m.ok := hm
  have HV : Hid (PayAt w v m.p) := hv
  have HV' : Hid (PayAt w v' m.p) := hv'
  clear hm hv hv'
  have HR1 : Hid (((w.alloc (.cells (m.cells v).toArray 54)).alloc (.cells (m.cells v').toArray 75)).rangeAt w.heap.size 4 (ints m.d)) := dig_range HM.out (heap_alloc2_old w _ _)
  have HR2 : Hid (((w.alloc (.cells (m.cells v).toArray 54)).alloc (.cells (m.cells v').toArray 75)).rangeAt (w.heap.size + 1) 4 (ints m.d)) := dig_range HM.out (heap_alloc2_new w _ _)
  have HBEL : Hid (Below w.heap.size w ((w.alloc (.cells (m.cells v).toArray 54)).alloc (.cells (m.cells v').toArray 75))) := (two_new rfl).2.2
  go_enter Trym.func22, Trym.ntmps22
  simp only [Msg.cells] at HR1 HR2 HBEL ⊢
  go_wp2_with fail
  refine (sameBytes_any v v' m.p _ HM.out.2 (HV.out.up HBEL.out) (HV'.out.up HBEL.out)).mono ?_
  rintro e w1 ⟨rfl, nq, rfl⟩
  have hr1 := range_draws nq HR1.out
  have hr2 := range_draws nq HR2.out
  have HB2 := below_draws nq HBEL.out
  clear HR1 HR2 HV HV' HBEL
  have HB3 : Hid _ := HB2
  clear HB2
  go_wp2_with (first | (refine wpList_load_wanted rfl 52 (.tmp 32) rfl w.heap.size 4 rfl (ints m.d) _ hr1 Trym.underlying52 rfl (by rw [ints_len, HM.out.1]; kernel_rfl) ?_) | (refine wpList_load_wanted rfl 51 (.tmp 34) rfl (w.heap.size + 1) 4 rfl (ints m.d) _ hr2 Trym.underlying51 rfl (by rw [ints_len, HM.out.1]; kernel_rfl) ?_))
  go_ret
  exact ⟨rfl, HB3.out⟩

end Go.Proofs.Qxb6615968aMods.Cut
