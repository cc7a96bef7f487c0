/-
  cloneBytes (33), cloneBools (13), sameBytes (30).
-/
import Derived.Test.Qxb6615968aModsBase
namespace Go.Proofs.Qxb6615968aMods.Cut
open Go Go.RowKit

theorem arr_of_row {c : Array Value} {zs : List Int} (hn : c.size = zs.length) (hc : ∀ i, i < zs.length → c[i]? = some (.int .u8 (zs.getD i 0))) : c = (ints zs).toArray := by
  apply Array.ext_getElem?
  intro i
  by_cases hi : i < zs.length
  · rw [hc i hi]; simp [ints, hi]
  · rw [Array.getElem?_eq_none (by omega)]; simp [ints, hi]

theorem row_next {w : World} {b t n k : Nat} {z : Value} {V : Nat → Value} (h : w.rowIs b t n (fun j => if j < k then V j else z)) (_hk : k < n) :
    (w.setCell ⟨b, k, none⟩ (V k)).rowIs b t n (fun j => if j < k + 1 then V j else z) :=
  (h.set k (V k)).congr (fun i _ => by
    by_cases e : i = k
    · subst e; simp
    · by_cases e2 : i < k
      · simp [e, e2, show i < k + 1 by omega]
      · simp [e, e2, show ¬ i < k + 1 by omega])

theorem row_done {w : World} {b n : Nat} {zs : List Int} {z : Value} (h : w.rowIs b 5 n (fun j => if j < n then .int .u8 (zs.getD j 0) else z)) (hn : n = zs.length) :
    w.heap[b]? = some (.cells (ints zs).toArray 5 (0, 0)) := by
  obtain ⟨c, hcb, hcs, hcc⟩ := h
  subst hn
  have e := arr_of_row (c := c) (zs := zs) hcs (fun i hi => by have := hcc i hi; simp only [hi, if_true] at this; exact this)
  rw [hcb, e]

set_option maxHeartbeats 800000 in
theorem cloneBytes_some (a : Addr) (cap : Nat) (zs : List Int) (w : World) (hlen : zs.length ≤ 1048576)
    (hc : ∀ j, j < zs.length → w.cell? (a.add j) = some (.int .u8 (zs.getD j 0))) :
    Calls Trym.prog 33 #[.slice (some a) zs.length cap] w fun e w' => e = .returned (.slice (some ⟨w.heap.size, 0, none⟩) zs.length zs.length) ∧
      w'.heap[w.heap.size]? = some (.cells (ints zs).toArray 5 (0, 0)) ∧ Below w.heap.size w w' := by
  have hnil := fun (w : World) (a : Option Addr) (n c : Nat) => Lib.run_eql_slice_nil (P := Trym.prog) w 50 5 a n c 0 0 Trym.underlying50
  obtain ⟨n, hn⟩ : ∃ n, n = zs.length := ⟨_, rfl⟩
  rw [← hn]
  rw [← hn] at hlen
  have hmk := run_make_row' (P := Trym.prog) 50 5 (.int .u8 0) 1 Trym.underlying50 Trym.bytes5 rfl .i64 .i64 n (by omega) (by omega)
  have HN : Hid (n = zs.length) := hn
  clear hn
  have HC : Hid (∀ j, j < zs.length → w.cell? (a.add j) = some (.int .u8 (zs.getD j 0))) := hc
  clear hc
  have HR0 : Hid ((w.alloc (.cells (madeCells #[.int .u8 0] n) 5)).rowIs w.heap.size 5 n (fun j => if j < 0 then .int .u8 (zs.getD j 0) else .int .u8 0)) :=
    World.rowIs_made w (.int .u8 0) n 5
  go_enter Trym.func33, Trym.ntmps33
  go_wp2
  go_loopw [4] (fun i wr => ∃ k : Nat, k ≤ n ∧ i = .int .i64 k ∧ wr.rowIs w.heap.size 5 n (fun j => if j < k then .int .u8 (zs.getD j 0) else .int .u8 0) ∧ Below w.heap.size w wr)
    (fun i _ => n - (intOf i).toNat)
  case atStart => exact ⟨0, Nat.zero_le _, rfl, HR0.out, (Below.refl _ _).alloc (Nat.le_refl _) _⟩
  case round =>
    obtain ⟨k, hk, rfl, hrow, hbel⟩ := hrel
    by_cases hlt : k < n
    · have hcx : wr.cell? (a.add k) = some (.int .u8 (zs.getD k 0)) := by
        have h1 := HC.out k (by rw [← HN.out]; exact hlt)
        rw [← h1]
        exact hbel.cell (World.block_lt_of_cell? _ _ h1)
      obtain ⟨zk, hzk⟩ : ∃ zk, zk = zs.getD k 0 := ⟨_, rfl⟩
      rw [← hzk] at hcx
      have HZ : Hid (zk = zs.getD k 0) := hzk
      clear hzk
      have hex : (wr.cell? ⟨w.heap.size, k, none⟩).isSome = true := by rw [hrow.cell hlt]; rfl
      obtain ⟨u, hu⟩ := Option.isSome_iff_exists.1 hex
      have hfr : wr.frozen? ⟨w.heap.size, k, none⟩ = false := hrow.frozen k
      have HROW : Hid (wr.rowIs w.heap.size 5 n (fun j => if j < k then .int .u8 (zs.getD j 0) else .int .u8 0)) := hrow
      clear hrow hex
      go_wp2
      go_roundw
      case rel =>
        refine ⟨k + 1, by omega, by go_num, ?_, hbel.setCell (p := ⟨w.heap.size, k, none⟩) (Nat.le_refl _) _⟩
        rw [HZ.out]
        exact row_next (V := fun j => .int .u8 (zs.getD j 0)) HROW.out hlt
      case measure => simp [intOf]; omega
    · go_wp2
      go_ret
      have hkn : k = n := by omega
      subst hkn
      exact ⟨rfl, row_done hrow HN.out, hbel⟩

theorem cloneBytes_nil (w : World) : Calls Trym.prog 33 #[.slice none 0 0] w fun e w' => e = .returned (.slice none 0 0) ∧ w' = w := by
  have hnil := fun (w : World) (a : Option Addr) (n c : Nat) => Lib.run_eql_slice_nil (P := Trym.prog) w 50 5 a n c 0 0 Trym.underlying50
  go_enter Trym.func33, Trym.ntmps33
  go_wp2
  go_ret
  exact ⟨rfl, rfl⟩

/-- cloneBytes. -/
theorem cloneBytes_any (v : Value) (zs : List Int) (w : World) (h : Reads w v zs) (hlen : zs.length ≤ 1048576) :
    Calls Trym.prog 33 #[v] w fun e w' => ∃ v', e = .returned v' ∧ PayAt w' v' zs ∧ Below w.heap.size w w' := by
  rcases h with ⟨rfl, rfl⟩ | ⟨a, cap, rfl, hc⟩
  · exact (cloneBytes_nil w).mono fun e w' ⟨he, hw⟩ => ⟨_, he, .inl ⟨rfl, rfl⟩, hw ▸ Below.refl _ _⟩
  · exact (cloneBytes_some a cap zs w hlen hc).mono fun e w' ⟨he, hw, hb⟩ => ⟨_, he, .inr ⟨_, rfl, hw⟩, hb⟩

/-! ### cloneBools -/
theorem arr_of_rowB {c : Array Value} {zs : List Bool} (hn : c.size = zs.length) (hc : ∀ i, i < zs.length → c[i]? = some (.bool (zs.getD i false))) : c = (zs.map Value.bool).toArray := by
  apply Array.ext_getElem?
  intro i
  by_cases hi : i < zs.length
  · rw [hc i hi]; simp [hi]
  · rw [Array.getElem?_eq_none (by omega)]; simp [hi]

theorem row_doneB {w : World} {b n : Nat} {zs : List Bool} {z : Value} (h : w.rowIs b 4 n (fun j => if j < n then .bool (zs.getD j false) else z)) (hn : n = zs.length) :
    w.heap[b]? = some (.cells (zs.map Value.bool).toArray 4 (0, 0)) := by
  obtain ⟨c, hcb, hcs, hcc⟩ := h
  subst hn
  have e := arr_of_rowB (c := c) (zs := zs) hcs (fun i hi => by have := hcc i hi; simp only [hi, if_true] at this; exact this)
  rw [hcb, e]

set_option maxHeartbeats 800000 in
theorem cloneBools_some (a : Addr) (cap : Nat) (zs : List Bool) (w : World) (hlen : zs.length ≤ 1048576)
    (hc : ∀ j, j < zs.length → w.cell? (a.add j) = some (.bool (zs.getD j false))) :
    Calls Trym.prog 13 #[.slice (some a) zs.length cap] w fun e w' => e = .returned (.slice (some ⟨w.heap.size, 0, none⟩) zs.length zs.length) ∧
      w'.heap[w.heap.size]? = some (.cells (zs.map Value.bool).toArray 4 (0, 0)) ∧ Below w.heap.size w w' := by
  have hnil := fun (w : World) (a : Option Addr) (n c : Nat) => Lib.run_eql_slice_nil (P := Trym.prog) w 30 4 a n c 0 0 Trym.underlying30
  obtain ⟨n, hn⟩ : ∃ n, n = zs.length := ⟨_, rfl⟩
  rw [← hn]
  rw [← hn] at hlen
  have hmk := run_make_row' (P := Trym.prog) 30 4 (.bool false) 1 Trym.underlying30 Trym.bytes4 rfl .i64 .i64 n (by omega) (by omega)
  have HN : Hid (n = zs.length) := hn
  clear hn
  have HC : Hid (∀ j, j < zs.length → w.cell? (a.add j) = some (.bool (zs.getD j false))) := hc
  clear hc
  have HR0 : Hid ((w.alloc (.cells (madeCells #[.bool false] n) 4)).rowIs w.heap.size 4 n (fun j => if j < 0 then .bool (zs.getD j false) else .bool false)) :=
    World.rowIs_made w (.bool false) n 4
  go_enter Trym.func13, Trym.ntmps13
  go_wp2
  go_loopw [4] (fun i wr => ∃ k : Nat, k ≤ n ∧ i = .int .i64 k ∧ wr.rowIs w.heap.size 4 n (fun j => if j < k then .bool (zs.getD j false) else .bool false) ∧ Below w.heap.size w wr)
    (fun i _ => n - (intOf i).toNat)
  case atStart => exact ⟨0, Nat.zero_le _, rfl, HR0.out, (Below.refl _ _).alloc (Nat.le_refl _) _⟩
  case round =>
    obtain ⟨k, hk, rfl, hrow, hbel⟩ := hrel
    by_cases hlt : k < n
    · have hcx : wr.cell? (a.add k) = some (.bool (zs.getD k false)) := by
        have h1 := HC.out k (by rw [← HN.out]; exact hlt)
        rw [← h1]
        exact hbel.cell (World.block_lt_of_cell? _ _ h1)
      obtain ⟨zk, hzk⟩ : ∃ zk, zk = zs.getD k false := ⟨_, rfl⟩
      rw [← hzk] at hcx
      have HZ : Hid (zk = zs.getD k false) := hzk
      clear hzk
      have hex : (wr.cell? ⟨w.heap.size, k, none⟩).isSome = true := by rw [hrow.cell hlt]; rfl
      obtain ⟨u, hu⟩ := Option.isSome_iff_exists.1 hex
      have hfr : wr.frozen? ⟨w.heap.size, k, none⟩ = false := hrow.frozen k
      have HROW : Hid (wr.rowIs w.heap.size 4 n (fun j => if j < k then .bool (zs.getD j false) else .bool false)) := hrow
      clear hrow hex
      go_wp2
      go_roundw
      case rel =>
        refine ⟨k + 1, by omega, by go_num, ?_, hbel.setCell (p := ⟨w.heap.size, k, none⟩) (Nat.le_refl _) _⟩
        rw [HZ.out]
        exact row_next (V := fun j => .bool (zs.getD j false)) HROW.out hlt
      case measure => simp [intOf]; omega
    · go_wp2
      go_ret
      have hkn : k = n := by omega
      subst hkn
      exact ⟨rfl, row_doneB hrow HN.out, hbel⟩

theorem cloneBools_nil (w : World) : Calls Trym.prog 13 #[.slice none 0 0] w fun e w' => e = .returned (.slice none 0 0) ∧ w' = w := by
  have hnil := fun (w : World) (a : Option Addr) (n c : Nat) => Lib.run_eql_slice_nil (P := Trym.prog) w 30 4 a n c 0 0 Trym.underlying30
  go_enter Trym.func13, Trym.ntmps13
  go_wp2
  go_ret
  exact ⟨rfl, rfl⟩

/-! ### sameBytes -/
set_option maxHeartbeats 800000 in
theorem sameBytes_core (ao ao' : Option Addr) (c c' n : Nat) (V : Nat → Int) (w : World) (hlen : n ≤ 1048576)
    (h : ∀ j, j < n → ∃ a, ao = some a ∧ w.cell? (a.add j) = some (.int .u8 (V j)))
    (h' : ∀ j, j < n → ∃ a, ao' = some a ∧ w.cell? (a.add j) = some (.int .u8 (V j))) :
    Calls Trym.prog 30 #[.slice ao n c, .slice ao' n c'] w fun e w' => e = .returned (.bool true) ∧ ∃ m, w' = w.drewN m := by
  have HA : Hid (∀ j, j < n → ∃ a, ao = some a ∧ w.cell? (a.add j) = some (.int .u8 (V j))) := h
  have HA' : Hid (∀ j, j < n → ∃ a, ao' = some a ∧ w.cell? (a.add j) = some (.int .u8 (V j))) := h'
  clear h h'
  have hne : ((n : Int) != (n : Int)) = false := by simp
  go_enter Trym.func30, Trym.ntmps30
  go_wp2
  go_loopw [5] (fun i wr => ∃ k : Nat, k ≤ n ∧ i = .int .i64 k ∧ ∃ m, wr = w.drewN m) (fun i _ => n - (intOf i).toNat)
  case atStart => exact ⟨0, Nat.zero_le _, rfl, 0, rfl⟩
  case round =>
    obtain ⟨k, hk, rfl, m, rfl⟩ := hrel
    by_cases hlt : k < n
    · obtain ⟨a, rfl, hc⟩ := HA.out k hlt
      obtain ⟨a', rfl, hc'⟩ := HA'.out k hlt
      have hb : (V k != V k) = false := by simp
      have h1 : (0 : Int) ≤ (k : Int) := by omega
      have h2 : (k : Int) < (n : Int) := by omega
      go_wp2
      go_quiet (fail)
      go_wp2
      go_roundw
      case rel => exact ⟨k + 1, by omega, by go_num, _, rfl⟩
      case measure => simp [intOf]; omega
    · go_wp2
      go_ret
      exact ⟨rfl, _, rfl⟩

theorem PayAt.at {w : World} {v : Value} {zs : List Int} (h : PayAt w v zs) : ∃ ao c, v = .slice ao zs.length c ∧ ∀ j, j < zs.length → ∃ a, ao = some a ∧ w.cell? (a.add j) = some (.int .u8 (zs.getD j 0)) := by
  rcases h.reads with ⟨rfl, rfl⟩ | ⟨a, cap, rfl, hc⟩
  · exact ⟨none, 0, rfl, fun j hj => absurd hj (Nat.not_lt_zero _)⟩
  · exact ⟨some a, cap, rfl, fun j hj => ⟨a, rfl, hc j hj⟩⟩

/-- sameBytes of two payloads of the same bytes. -/
theorem sameBytes_any (v v' : Value) (zs : List Int) (w : World) (hlen : zs.length ≤ 1048576) (h : PayAt w v zs) (h' : PayAt w v' zs) :
    Calls Trym.prog 30 #[v, v'] w fun e w' => e = .returned (.bool true) ∧ ∃ m, w' = w.drewN m := by
  obtain ⟨ao, c, rfl, hc⟩ := h.at
  obtain ⟨ao', c', rfl, hc'⟩ := h'.at
  exact sameBytes_core ao ao' c c' zs.length (fun j => zs.getD j 0) w hlen hc hc'
end Go.Proofs.Qxb6615968aMods.Cut
