/-
  cloneRB (26), toRB (27).
-/
import Derived.Test.Qxb6615968aModsBuild
namespace Go.Proofs.Qxb6615968aMods.Cut
open Go Go.RowKit

theorem two_new {w W : World} {A B : Obj} (h : (w.alloc A).alloc B = W) : W.heap[w.heap.size]? = some A ∧ W.heap[w.heap.size + 1]? = some B ∧ Below w.heap.size w W := by
  subst h
  exact ⟨heap_alloc2_old w A B, heap_alloc2_new w A B, ((Below.refl _ _).alloc (Nat.le_refl _) A).alloc (by simp) B⟩

/-- The parameter's box, the result's box, what was there. -/
structure Two (t : TypeId) (m : Msg) (v : Value) (w w' : World) : Prop where
  box : w'.heap[w.heap.size]? = some (.cells (m.cells v).toArray 75 (0, 0))
  res : ∃ C, w'.heap[w.heap.size + 1]? = some (.cells C t (0, 0)) ∧ C.size = 36
  old : Below w.heap.size w w'
section
variable {t : TypeId} {m : Msg} {v : Value} {w w' : World}
theorem Two.cell0 (h : Two t m v w w') : w'.cell? ⟨w.heap.size, 0, none⟩ = some (.int .u8 m.k) := by rw [cell_of_row _ _ _ _ _ _ h.box]; simp [Msg.cells]
theorem Two.cell1 (h : Two t m v w w') : w'.cell? ⟨w.heap.size, 1, none⟩ = some (.int .i64 m.s) := by rw [cell_of_row _ _ _ _ _ _ h.box]; simp [Msg.cells]
theorem Two.cell2 (h : Two t m v w w') : w'.cell? ⟨w.heap.size, 2, none⟩ = some (.int .u64 m.q) := by rw [cell_of_row _ _ _ _ _ _ h.box]; simp [Msg.cells]
theorem Two.cell3 (h : Two t m v w w') : w'.cell? ⟨w.heap.size, 3, none⟩ = some v := by rw [cell_of_row _ _ _ _ _ _ h.box]; simp [Msg.cells]
theorem Two.dig (h : Two t m v w w') (hm : m.ok) : w'.rangeAt w.heap.size 4 (ints m.d) := by
  have := range_of_blk h.box 4 32
  simp only [Msg.cells, List.drop_succ_cons, List.drop_zero] at this
  rwa [List.take_of_length_le (by rw [ints_len, hm.1]; exact Nat.le_refl _)] at this
theorem Two.up {w1 : World} (h : Two t m v w w') (k : Below w'.heap.size w' w1) : Two t m v w w1 := by
  obtain ⟨C, hC, hs⟩ := h.res
  exact ⟨blk_keep k h.box, ⟨C, blk_keep k hC, hs⟩, below_up h.old k⟩
theorem below_setRow {B : Nat} {a w1 : World} (h : Below B a w1) {g : Nat} (hg : B ≤ g) (cs : Array Value) : Below B a (w1.setRow g cs) :=
  h.trans ⟨rfl, rfl, rfl, by simp, fun k hk => setRow_other _ _ _ _ (by omega)⟩
theorem Two.store (h : Two t m v w w') {D : Array Value} (hD : D.size = 36) : Two t m v w (w'.setRow (w.heap.size + 1) D) := by
  obtain ⟨C, hC, hs⟩ := h.res
  refine ⟨?_, ⟨D, setRow_heap _ _ _ _ _ _ hC, hD⟩, below_setRow h.old (by omega) _⟩
  rw [setRow_other _ _ _ _ (by omega)]; exact h.box
theorem keep5_setRow {w1 : World} {g : Nat} {C D : Array Value} {t : TypeId} {fr : Nat × Nat} (hg : w1.heap[g]? = some (.cells C t fr)) (ht : t ≠ 5) : Keep5 w1 (w1.setRow g D) := fun b X hX => by
  by_cases e : b = g
  · subst e; rw [hg] at hX; simp at hX; exact absurd hX.2.1 ht
  · rw [setRow_other _ _ _ _ e]; exact hX
theorem Reads.up {zs : List Int} {v : Value} {a b : World} (h : Reads a v zs) (k : Below a.heap.size a b) : Reads b v zs := by
  rcases h with h | ⟨ad, cap, hv, hc⟩
  · exact .inl h
  · refine .inr ⟨ad, cap, hv, fun j hj => ?_⟩
    rw [← hc j hj]
    exact k.cell (World.block_lt_of_cell? _ _ (hc j hj))
end

set_option maxHeartbeats 1600000 in
set_option maxRecDepth 100000 in
theorem cloneRB_any (m : Msg) (v : Value) (w : World) (hm : m.ok) (hv : Reads w v m.p) :
    Calls Trym.prog 26 #[.agg (m.cells v).toArray] w fun e w' => ∃ v', e = .returned (.agg (m.cells v').toArray) ∧ PayAt w' v' m.p ∧ Below w.heap.size w w' := by
  have HM : Hid m.ok := hm
  have HV : Hid (Reads w v m.p) := hv
  clear hm hv
  go_enter Trym.func26, Trym.ntmps26
  go_wp2
  generalize hW : World.alloc (World.alloc w _) _ = W
  obtain ⟨hW1, hW2, hWB⟩ := two_new hW
  clear hW
  have hS : Two 75 m v w W.drew := ⟨hW1, ⟨_, hW2, rfl⟩, hWB.drew⟩
  clear hW1 hW2
  refine region_start (S := Two 75 m v w) (by kernel_rfl) hS 13 rfl [false, false, false, false, false, false, false, false, false, false, false, false, false] rfl (fun hHeld => ?_)
  refine wpAnyH_take (i := 0) (v := .pointer (some ⟨w.heap.size, 0, none⟩)) (at_list rfl) (by kernel_rfl) (by kernel_rfl) (by kernel_rfl) (fun _ _ _ h => h) (Or.inl ⟨by rfl, ?_⟩) hHeld ?_
  · intro w' _; go_simp
  simp only [Act.put, List.setIfInBounds_toArray, List.set_cons_zero, List.set_cons_succ]
  refine wpAnyH_take (i := 1) (v := .int .u8 m.k) (at_list rfl) (by kernel_rfl) (by kernel_rfl) (by kernel_rfl) (fun _ _ _ h => h) (Or.inl ⟨by rfl, ?_⟩) hHeld ?_
  · intro w' hS'; have hc := hS'.cell0; go_simp
  simp only [Act.put, List.setIfInBounds_toArray, List.set_cons_zero, List.set_cons_succ]
  refine wpAnyH_take (i := 2) (v := .pointer (some ⟨w.heap.size, 1, none⟩)) (at_list rfl) (by kernel_rfl) (by kernel_rfl) (by kernel_rfl) (fun _ _ _ h => h) (Or.inl ⟨by rfl, ?_⟩) hHeld ?_
  · intro w' _; go_simp
  simp only [Act.put, List.setIfInBounds_toArray, List.set_cons_zero, List.set_cons_succ]
  refine wpAnyH_take (i := 3) (v := .int .i64 m.s) (at_list rfl) (by kernel_rfl) (by kernel_rfl) (by kernel_rfl) (fun _ _ _ h => h) (Or.inl ⟨by rfl, ?_⟩) hHeld ?_
  · intro w' hS'; have hc := hS'.cell1; go_simp
  simp only [Act.put, List.setIfInBounds_toArray, List.set_cons_zero, List.set_cons_succ]
  refine wpAnyH_take (i := 4) (v := .pointer (some ⟨w.heap.size, 2, none⟩)) (at_list rfl) (by kernel_rfl) (by kernel_rfl) (by kernel_rfl) (fun _ _ _ h => h) (Or.inl ⟨by rfl, ?_⟩) hHeld ?_
  · intro w' _; go_simp
  simp only [Act.put, List.setIfInBounds_toArray, List.set_cons_zero, List.set_cons_succ]
  refine wpAnyH_take (i := 5) (v := .int .u64 m.q) (at_list rfl) (by kernel_rfl) (by kernel_rfl) (by kernel_rfl) (fun _ _ _ h => h) (Or.inl ⟨by rfl, ?_⟩) hHeld ?_
  · intro w' hS'; have hc := hS'.cell2; go_simp
  simp only [Act.put, List.setIfInBounds_toArray, List.set_cons_zero, List.set_cons_succ]
  refine wpAnyH_take (i := 6) (v := .pointer (some ⟨w.heap.size, 3, none⟩)) (at_list rfl) (by kernel_rfl) (by kernel_rfl) (by kernel_rfl) (fun _ _ _ h => h) (Or.inl ⟨by rfl, ?_⟩) hHeld ?_
  · intro w' _; go_simp
  simp only [Act.put, List.setIfInBounds_toArray, List.set_cons_zero, List.set_cons_succ]
  refine wpAnyH_take (i := 7) (v := v) (at_list rfl) (by kernel_rfl) (by kernel_rfl) (by kernel_rfl) (fun _ _ _ h => h) (Or.inl ⟨by rfl, ?_⟩) hHeld ?_
  · intro w' hS'; have hc := hS'.cell3; go_simp
  simp only [Act.put, List.setIfInBounds_toArray, List.set_cons_zero, List.set_cons_succ]
  refine wpAnyH_take (i := 9) (v := .pointer (some ⟨w.heap.size, 4, none⟩)) (at_list rfl) (by kernel_rfl) (by kernel_rfl) (by kernel_rfl) (fun _ _ _ h => h) (Or.inl ⟨by rfl, ?_⟩) hHeld ?_
  · intro w' _; go_simp
  simp only [Act.put, List.setIfInBounds_toArray, List.set_cons_zero, List.set_cons_succ]
  refine wpAnyH_take (i := 10) (v := .agg (ints m.d).toArray) (at_list rfl) (by kernel_rfl) (by kernel_rfl) (by kernel_rfl) (fun _ _ _ h => h)
    (yieldsIf_load_mid (by rfl) 51 _ rfl w.heap.size 4 rfl (ints m.d) _ (fun w' hS' => hS'.dig HM.out) Trym.underlying51 rfl (by rw [ints_len, HM.out.1]; kernel_rfl)) hHeld ?_
  simp only [Act.put, List.setIfInBounds_toArray, List.set_cons_zero, List.set_cons_succ]
  refine region_one (i := 8) rfl (by kernel_rfl) (by rfl) (fun K hK => ?_)
  simp only [List.set_cons_zero, List.set_cons_succ] at hK
  go_simp
  refine (cloneBytes_any v m.p W.drew (HV.out.up hWB.drew) HM.out.2).mono ?_
  rintro e w1 ⟨v', rfl, hp, hb⟩
  refine hK.out _ _ (hHeld.up hb) ?_
  replace hHeld := hHeld.up hb
  clear hK K hS hWB hb
  have HP : Hid (PayAt w1 v' m.p) := hp
  clear hp
  obtain ⟨ao, c, hv'⟩ := HP.out.slice
  subst hv'
  refine wpAnyH_take (i := 11) (v := .agg (m.cells (.slice ao m.p.length c)).toArray) (at_list rfl) (by kernel_rfl) (by kernel_rfl) (by kernel_rfl) (fun _ _ _ h => h)
    (yieldsIf_built (by rfl) 75 _ rfl [(0, .int .u8 m.k), (1, .int .i64 m.s), (2, .int .u64 m.q), (3, .slice ao m.p.length c), (4, .agg (ints m.d).toArray)] rfl _ (built75 m.k m.s m.q ao m.p.length c (ints m.d) (by rw [ints_len, HM.out.1]))) hHeld ?_
  simp only [Act.put, List.setIfInBounds_toArray, List.set_cons_zero, List.set_cons_succ]
  refine region_one (i := 12) rfl (by kernel_rfl) (by rfl) (fun K hK => ?_)
  simp only [List.set_cons_zero, List.set_cons_succ] at hK
  obtain ⟨C, hC, hCs⟩ := hHeld.res
  have hlen : (m.cells (.slice ao m.p.length c)).toArray.size = 36 := by simpa using Msg.len HM.out _
  refine wp_store_row 75 _ _ rfl (w.heap.size + 1) (m.cells (.slice ao m.p.length c)).toArray rfl rfl 75 C hC (by rw [hlen]; kernel_rfl) (by rw [hlen, hCs]) (all_oneCell_toArray (Msg.one HP.out.reads)) ?_
  have h2 : Two 75 m v w (w1.setRow (w.heap.size + 1) (m.cells (.slice ao m.p.length c)).toArray) := hHeld.store hlen
  have hblk := setRow_heap w1 (w.heap.size + 1) C (m.cells (.slice ao m.p.length c)).toArray 75 (0, 0) hC
  have HP2 : Hid (PayAt (w1.setRow (w.heap.size + 1) (m.cells (.slice ao m.p.length c)).toArray) (.slice ao m.p.length c) m.p) := HP.out.keep (keep5_setRow hC (by decide))
  refine hK.out _ _ h2 ?_
  clear hK K
  refine wpAnyH_done (by kernel_rfl) ?_ _
  have HO : Hid (Below w.heap.size w (w1.setRow (w.heap.size + 1) (m.cells (.slice ao m.p.length c)).toArray)) := h2.old
  have HB : Hid ((w1.setRow (w.heap.size + 1) (m.cells (.slice ao m.p.length c)).toArray).heap[w.heap.size + 1]? = some (.cells (m.cells (.slice ao m.p.length c)).toArray 75 (0, 0))) := hblk
  clear h2 hblk hHeld HP hC hCs
  go_wp2
  exact bodyPost_ret (v := .agg (m.cells (.slice ao m.p.length c)).toArray) (results_cell_row Trym.results26 _ _ (w.heap.size + 1) 75 _ (0, 0) _ rfl HB.out Trym.underlying75 rfl (by rw [hlen]; kernel_rfl)) rfl
    ⟨_, rfl, HP2.out, HO.out⟩

set_option maxHeartbeats 1600000 in
set_option maxRecDepth 100000 in
theorem toRB_any (m : Msg) (v : Value) (w : World) (hm : m.ok) (hv : Reads w v m.p) :
    Calls Trym.prog 27 #[.agg (m.cells v).toArray] w fun e w' => ∃ v', e = .returned (.agg (m.cells v').toArray) ∧ PayAt w' v' m.p ∧ Below w.heap.size w w' := by
  have HM : Hid m.ok := hm
  have HV : Hid (Reads w v m.p) := hv
  clear hm hv
  go_enter Trym.func27, Trym.ntmps27
  go_wp2
  generalize hW : World.alloc (World.alloc w _) _ = W
  obtain ⟨hW1, hW2, hWB⟩ := two_new hW
  clear hW
  have hS : Two 54 m v w W.drew := ⟨hW1, ⟨_, hW2, rfl⟩, hWB.drew⟩
  clear hW1 hW2
  refine region_start (S := Two 54 m v w) (by kernel_rfl) hS 13 rfl [false, false, false, false, false, false, false, false, false, false, false, false, false] rfl (fun hHeld => ?_)
  refine wpAnyH_take (i := 0) (v := .pointer (some ⟨w.heap.size, 0, none⟩)) (at_list rfl) (by kernel_rfl) (by kernel_rfl) (by kernel_rfl) (fun _ _ _ h => h) (Or.inl ⟨by rfl, ?_⟩) hHeld ?_
  · intro w' _; go_simp
  simp only [Act.put, List.setIfInBounds_toArray, List.set_cons_zero, List.set_cons_succ]
  refine wpAnyH_take (i := 1) (v := .int .u8 m.k) (at_list rfl) (by kernel_rfl) (by kernel_rfl) (by kernel_rfl) (fun _ _ _ h => h) (Or.inl ⟨by rfl, ?_⟩) hHeld ?_
  · intro w' hS'; have hc := hS'.cell0; go_simp
  simp only [Act.put, List.setIfInBounds_toArray, List.set_cons_zero, List.set_cons_succ]
  refine wpAnyH_take (i := 2) (v := .pointer (some ⟨w.heap.size, 1, none⟩)) (at_list rfl) (by kernel_rfl) (by kernel_rfl) (by kernel_rfl) (fun _ _ _ h => h) (Or.inl ⟨by rfl, ?_⟩) hHeld ?_
  · intro w' _; go_simp
  simp only [Act.put, List.setIfInBounds_toArray, List.set_cons_zero, List.set_cons_succ]
  refine wpAnyH_take (i := 3) (v := .int .i64 m.s) (at_list rfl) (by kernel_rfl) (by kernel_rfl) (by kernel_rfl) (fun _ _ _ h => h) (Or.inl ⟨by rfl, ?_⟩) hHeld ?_
  · intro w' hS'; have hc := hS'.cell1; go_simp
  simp only [Act.put, List.setIfInBounds_toArray, List.set_cons_zero, List.set_cons_succ]
  refine wpAnyH_take (i := 4) (v := .pointer (some ⟨w.heap.size, 2, none⟩)) (at_list rfl) (by kernel_rfl) (by kernel_rfl) (by kernel_rfl) (fun _ _ _ h => h) (Or.inl ⟨by rfl, ?_⟩) hHeld ?_
  · intro w' _; go_simp
  simp only [Act.put, List.setIfInBounds_toArray, List.set_cons_zero, List.set_cons_succ]
  refine wpAnyH_take (i := 5) (v := .int .u64 m.q) (at_list rfl) (by kernel_rfl) (by kernel_rfl) (by kernel_rfl) (fun _ _ _ h => h) (Or.inl ⟨by rfl, ?_⟩) hHeld ?_
  · intro w' hS'; have hc := hS'.cell2; go_simp
  simp only [Act.put, List.setIfInBounds_toArray, List.set_cons_zero, List.set_cons_succ]
  refine wpAnyH_take (i := 6) (v := .pointer (some ⟨w.heap.size, 3, none⟩)) (at_list rfl) (by kernel_rfl) (by kernel_rfl) (by kernel_rfl) (fun _ _ _ h => h) (Or.inl ⟨by rfl, ?_⟩) hHeld ?_
  · intro w' _; go_simp
  simp only [Act.put, List.setIfInBounds_toArray, List.set_cons_zero, List.set_cons_succ]
  refine wpAnyH_take (i := 7) (v := v) (at_list rfl) (by kernel_rfl) (by kernel_rfl) (by kernel_rfl) (fun _ _ _ h => h) (Or.inl ⟨by rfl, ?_⟩) hHeld ?_
  · intro w' hS'; have hc := hS'.cell3; go_simp
  simp only [Act.put, List.setIfInBounds_toArray, List.set_cons_zero, List.set_cons_succ]
  refine wpAnyH_take (i := 9) (v := .pointer (some ⟨w.heap.size, 4, none⟩)) (at_list rfl) (by kernel_rfl) (by kernel_rfl) (by kernel_rfl) (fun _ _ _ h => h) (Or.inl ⟨by rfl, ?_⟩) hHeld ?_
  · intro w' _; go_simp
  simp only [Act.put, List.setIfInBounds_toArray, List.set_cons_zero, List.set_cons_succ]
  refine wpAnyH_take (i := 10) (v := .agg (ints m.d).toArray) (at_list rfl) (by kernel_rfl) (by kernel_rfl) (by kernel_rfl) (fun _ _ _ h => h)
    (yieldsIf_load_mid (by rfl) 51 _ rfl w.heap.size 4 rfl (ints m.d) _ (fun w' hS' => hS'.dig HM.out) Trym.underlying51 rfl (by rw [ints_len, HM.out.1]; kernel_rfl)) hHeld ?_
  simp only [Act.put, List.setIfInBounds_toArray, List.set_cons_zero, List.set_cons_succ]
  refine region_one (i := 8) rfl (by kernel_rfl) (by rfl) (fun K hK => ?_)
  simp only [List.set_cons_zero, List.set_cons_succ] at hK
  go_simp
  refine (cloneBytes_any v m.p W.drew (HV.out.up hWB.drew) HM.out.2).mono ?_
  rintro e w1 ⟨v', rfl, hp, hb⟩
  refine hK.out _ _ (hHeld.up hb) ?_
  replace hHeld := hHeld.up hb
  clear hK K hS hWB hb
  have HP : Hid (PayAt w1 v' m.p) := hp
  clear hp
  obtain ⟨ao, c, hv'⟩ := HP.out.slice
  subst hv'
  refine wpAnyH_take (i := 11) (v := .agg (m.cells (.slice ao m.p.length c)).toArray) (at_list rfl) (by kernel_rfl) (by kernel_rfl) (by kernel_rfl) (fun _ _ _ h => h)
    (yieldsIf_built (by rfl) 54 _ rfl [(0, .int .u8 m.k), (1, .int .i64 m.s), (2, .int .u64 m.q), (3, .slice ao m.p.length c), (4, .agg (ints m.d).toArray)] rfl _ (built54 m.k m.s m.q ao m.p.length c (ints m.d) (by rw [ints_len, HM.out.1]))) hHeld ?_
  simp only [Act.put, List.setIfInBounds_toArray, List.set_cons_zero, List.set_cons_succ]
  refine region_one (i := 12) rfl (by kernel_rfl) (by rfl) (fun K hK => ?_)
  simp only [List.set_cons_zero, List.set_cons_succ] at hK
  obtain ⟨C, hC, hCs⟩ := hHeld.res
  have hlen : (m.cells (.slice ao m.p.length c)).toArray.size = 36 := by simpa using Msg.len HM.out _
  refine wp_store_row 54 _ _ rfl (w.heap.size + 1) (m.cells (.slice ao m.p.length c)).toArray rfl rfl 54 C hC (by rw [hlen]; kernel_rfl) (by rw [hlen, hCs]) (all_oneCell_toArray (Msg.one HP.out.reads)) ?_
  have h2 : Two 54 m v w (w1.setRow (w.heap.size + 1) (m.cells (.slice ao m.p.length c)).toArray) := hHeld.store hlen
  have hblk := setRow_heap w1 (w.heap.size + 1) C (m.cells (.slice ao m.p.length c)).toArray 54 (0, 0) hC
  have HP2 : Hid (PayAt (w1.setRow (w.heap.size + 1) (m.cells (.slice ao m.p.length c)).toArray) (.slice ao m.p.length c) m.p) := HP.out.keep (keep5_setRow hC (by decide))
  refine hK.out _ _ h2 ?_
  clear hK K
  refine wpAnyH_done (by kernel_rfl) ?_ _
  have HO : Hid (Below w.heap.size w (w1.setRow (w.heap.size + 1) (m.cells (.slice ao m.p.length c)).toArray)) := h2.old
  have HB : Hid ((w1.setRow (w.heap.size + 1) (m.cells (.slice ao m.p.length c)).toArray).heap[w.heap.size + 1]? = some (.cells (m.cells (.slice ao m.p.length c)).toArray 54 (0, 0))) := hblk
  clear h2 hblk hHeld HP hC hCs
  go_wp2
  exact bodyPost_ret (v := .agg (m.cells (.slice ao m.p.length c)).toArray) (results_cell_row Trym.results27 _ _ (w.heap.size + 1) 54 _ (0, 0) _ rfl HB.out Trym.underlying54 rfl (by rw [hlen]; kernel_rfl)) rfl
    ⟨_, rfl, HP2.out, HO.out⟩
end Go.Proofs.Qxb6615968aMods.Cut
