/-
  appendEntryResent (28), its wrapper (19).
-/
import Derived.Test.Qxb6615968aModsOwe
namespace Go.Proofs.Qxb6615968aMods.Cut
open Go Go.RowKit

/-! ### A slice of one element -/
section
variable {P : Program}
theorem run_buildSlice1 (t e : TypeId) (z : Array Value) (size bytes : Nat) (ht : P.underlying t = some (.slice e)) (hinfo : (P.info? e).map (fun i => (i.zero, i.size, i.bytes)) = some (some (.agg z), size, bytes)) 
    (h0 : 0 < size) (h24 : size ≤ 1000) (Y : List Value) (hY : Y.length = size) (w : World) :
    (Instr.buildSlice t 1 #[(0, .agg Y.toArray)]).run P w = .ok (.slice (some ⟨w.heap.size, 0, none⟩) 1 1) (w.alloc (.cells Y.toArray e)) := by
  obtain ⟨i, hi, hzz⟩ := Option.map_eq_some_iff.1 hinfo
  simp only [Prod.mk.injEq] at hzz
  obtain ⟨hz0, hs, hb⟩ := hzz
  have hfill : Instr.fill (fun i => some (i * size, size)) ((Array.range (1 * size)).map (z[· % z.size]!)) [(0, .agg Y.toArray)] = some Y.toArray := by
    obtain ⟨l, hl⟩ : ∃ l : List Value, (Array.range (1 * size)).map (z[· % z.size]!) = l.toArray := ⟨_, (Array.toArray_toList).symm⟩
    have hll : l.length = size := by have := congrArg Array.size hl; simpa using this.symm
    rw [hl, fill_one 0 size (by simp) Y rfl hY (by omega)]
    simp [Instr.fill, ← hll]
  have h1 : ¬ (16777216 < size) := by omega
  have h2 : ¬ size = 0 := by omega
  simp only [Nat.one_mul] at hfill
  simp [Instr.buildSlice, run_underlying ht, sizeOf, typeInfo, hi, hs, h1, h2, zeroValue, hz0, newRow, Value.cells, hfill]

theorem wpList_buildSlice1 {ops : Array Oper} {rest : List Oper} {o : Oper} {a : Act} {w : World} {Q : Exit → Act → World → Prop} (hgd : o.guard = none) (t : TypeId) (x : Operand) (ho : o.op = .buildSlice t 1 #[(0, x)])
    (e : TypeId) (z : Array Value) (size bytes : Nat) (ht : P.underlying t = some (.slice e)) (hinfo : (P.info? e).map (fun i => (i.zero, i.size, i.bytes)) = some (some (.agg z), size, bytes)) 
    (h0 : 0 < size) (h24 : size ≤ 1000) (Y : List Value) (hY : Y.length = size) (hx : a.eval x = .agg Y.toArray)
    (h : wpList P ops Q rest (a.put o.dst (.slice (some ⟨w.heap.size, 0, none⟩) 1 1)) (w.alloc (.cells Y.toArray e))) : wpList P ops Q (o :: rest) a w :=
  wpList_plain hgd fun _ hK => by
    have hr := run_buildSlice1 (P := P) t e z size bytes ht hinfo h0 h24 Y hY w
    unfold Oper.wp execOp
    simp only [ho, List.map_toArray, List.map_cons, List.map_nil, hx, Sem.run_bind, hr, Result.andThen_ok]
    exact hK _ _ h
end

theorem ab_get97 (k to rk : Int) {R : List Value} (h : R.length = 36) : (abCells k R to rk)[97]? = some (.int .i64 to) := by
  have e := t60_len
  rw [abCells, List.getElem?_cons_succ, List.getElem?_append_right (by omega), h, List.getElem?_append_right (by omega), e]; rfl
theorem ab_get98 (k to rk : Int) {R : List Value} (h : R.length = 36) : (abCells k R to rk)[98]? = some (.int .u8 rk) := by
  have e := t60_len
  rw [abCells, List.getElem?_cons_succ, List.getElem?_append_right (by omega), h, List.getElem?_append_right (by omega), e]; rfl
theorem ab_set (k to rk k' to' rk' : Int) {R : List Value} (h : R.length = 36) :
    ((((abCells k R to rk).toArray.setIfInBounds 97 (.int .i64 to')).setIfInBounds 98 (.int .u8 rk')).setIfInBounds 0 (.int .u8 k')) = (abCells k' R to' rk').toArray := by
  have e := t60_len
  simp only [List.setIfInBounds_toArray, abCells, List.set_cons_succ, List.set_cons_zero]
  congr 2
  rw [List.set_append_right _ _ (by omega), List.set_append_right _ _ (by omega), h]
  rw [List.set_append_right _ _ (by omega), List.set_append_right _ _ (by omega), e]
  rfl

theorem resent_ab (R : List Value) (to : Int) (w : World) (hR : R.length = 36) (h1 : ∀ u ∈ R, u.oneCell' = true) :
    Calls Trym.prog 34 #[.agg (abCells 1 R 0 0).toArray, .int .i64 to] w fun e w' => e = .returned (.agg (abCells 9 R to 1).toArray) ∧ Below w.heap.size w w' := by
  refine (resent_any (abCells 1 R 0 0).toArray 1 to (.int .i64 0) (.int .u8 0) w (by simpa using ab_len 1 0 0 hR) (by simp [abCells]) (by simpa using ab_get97 1 0 0 hR) (by simpa using ab_get98 1 0 0 hR) (all_oneCell_toArray (ab_one h1))).mono ?_
  rintro e w' ⟨rfl, hb⟩
  rw [ab_set 1 0 0 9 to 1 hR]
  exact ⟨rfl, hb⟩

theorem owns_up {w w' : World} {B : Nat} {e : TypeId} {sz n : Nat} {v : Value} {xs : List Value} (h : w.ownsRow B e sz v n xs) (k : Below w.heap.size w w') : w'.ownsRow B e sz v n xs := by
  obtain ⟨h1, h2⟩ := h
  refine ⟨h1, ?_⟩
  rcases h2 with h2 | ⟨g, cap, cur, hv, hg, hh, r⟩
  · exact Or.inl h2
  · exact Or.inr ⟨g, cap, cur, hv, hg, blk_keep k hh, r⟩
theorem owns_block {w w' : World} {B : Nat} {e : TypeId} {sz n : Nat} {v : Value} {xs : List Value} (h : w.ownsRow B e sz v n xs) (k : ∀ (b : Nat) (C : Array Value), w.heap[b]? = some (.cells C e (0, 0)) → w'.heap[b]? = some (.cells C e (0, 0))) : w'.ownsRow B e sz v n xs := by
  obtain ⟨h1, h2⟩ := h
  refine ⟨h1, ?_⟩
  rcases h2 with h2 | ⟨g, cap, cur, hv, hg, hh, r⟩
  · exact Or.inl h2
  · exact Or.inr ⟨g, cap, cur, hv, hg, k _ _ hh, r⟩

/-- The cells of the first k resent messages. -/
def flat (ms : Nat → Msg) (vs : Nat → Value) (to : Int) (k : Nat) : List Value := (List.range k).flatMap fun i => abCells 9 ((ms i).cells (vs i)) to 1
theorem flat_succ (ms : Nat → Msg) (vs : Nat → Value) (to : Int) (k : Nat) : flat ms vs to (k + 1) = flat ms vs to k ++ abCells 9 ((ms k).cells (vs k)) to 1 := by
  simp [flat, List.range_succ]

/-- What holds behind k rounds. -/
structure Pile (B no : Nat) (xs : List Value) (ms : Nat → Msg) (vs : Nat → Value) (to : Int) (w : World) (k : Nat) (v : Value) (wr : World) : Prop where
  own : wr.ownsRow B 73 99 v (no + k) (xs ++ flat ms vs to k)
  old : Below B w wr
  kept : ∀ (b : Nat) (C : Array Value) (t : TypeId), t ≠ 73 → w.heap[b]? = some (.cells C t (0, 0)) → wr.heap[b]? = some (.cells C t (0, 0))

theorem Pile.next {B no k : Nat} {xs : List Value} {ms : Nat → Msg} {vs : Nat → Value} {to : Int} {w wr w1 w2 : World} {v v' : Value} (h : Pile B no xs ms vs to w k v wr) (hB : B ≤ w.heap.size) (b1 : Below wr.heap.size wr w1)
    (hown : w2.ownsRow B 73 99 v' (no + k + 1) ((xs ++ flat ms vs to k) ++ abCells 9 ((ms k).cells (vs k)) to 1)) (hg : w1.grownBy w2 v.ownBlock) : Pile B no xs ms vs to w (k + 1) v' w2 := by
  have hsz : B ≤ wr.heap.size := Nat.le_trans hB h.old.size
  have hs1 : B ≤ w1.heap.size := Nat.le_trans hsz b1.size
  have hrow : ∀ g, v.ownBlock = some g → B ≤ g ∧ ∃ cur, wr.heap[g]? = some (.cells cur 73 (0, 0)) := fun g e => by
    rcases h.own.2 with ⟨rfl, _⟩ | ⟨g', cap, cur, rfl, hb, hh, _⟩
    · cases e
    · cases e; exact ⟨hb, cur, hh⟩
  refine ⟨?_, ?_, ?_⟩
  · rw [flat_succ, ← List.append_assoc]; exact hown
  · exact (h.old.trans (b1.mono hsz)).grown hg hs1 (fun g e => (hrow g e).1)
  · intro b C t ht hb
    have hb2 := h.kept b C t ht hb
    have hb3 := blk_keep b1 hb2
    rw [hg.block b (lt_of_blk hb3) (fun e => ?_)]
    · exact hb3
    · obtain ⟨_, cur, hc⟩ := hrow b e.symm
      rw [hc] at hb2; simp at hb2; exact ht hb2.2.symm

theorem one_new (w : World) (Y : List Value) (t : TypeId) : ∀ (j : Nat) (u : Value), Y[j]? = some u → (w.alloc (.cells Y.toArray t)).cell? ((⟨w.heap.size, 0, none⟩ : Addr).add j) = some u := fun j u h => by
  rw [Addr.add_lit, Nat.zero_add, cell_of_row _ _ _ _ _ _ (heap_alloc_new w (.cells Y.toArray t))]; simpa using h

theorem Owed.up {w w1 w2 : World} {vo : Value} {n be bo : Nat} (h : Owed w vo n be bo) (k : ∀ (b : Nat) (C : Array Value) (t : TypeId), t ≠ 73 → w.heap[b]? = some (.cells C t (0, 0)) → w1.heap[b]? = some (.cells C t (0, 0))) (b : Below w1.heap.size w1 w2) : Owed w2 vo n be bo := by
  rcases h with h | ⟨hv, C, hC, hs⟩
  · exact .inl h
  · exact .inr ⟨hv, C, blk_keep b (k bo C 4 (by decide) hC), hs⟩

theorem pile_end {B no nm be bo n : Nat} {xs : List Value} {ms : Nat → Msg} {vs : Nat → Value} {to : Int} {w wr w2 : World} {v vo : Value} {Ce : Array Value} {o : Obj} (h : Pile B no xs ms vs to w nm v wr)
    (hb : w.heap[be]? = some (.cells Ce 97 (0, 0))) (ho : Owed w vo n be bo) (hB : B ≤ w.heap.size) (hbe : B ≤ be) (hbo : B ≤ bo) (hbut : But be bo (wr.alloc o) w2) :
    w2.ownsRow B 73 99 v (no + nm) (xs ++ flat ms vs to nm) ∧ Below B w w2 ∧
      ∀ (b : Nat) (C : Array Value) (t : TypeId), t ≠ 73 → b ≠ be → b ≠ bo → w.heap[b]? = some (.cells C t (0, 0)) → w2.heap[b]? = some (.cells C t (0, 0)) := by
  have hbel : Below wr.heap.size wr (wr.alloc o) := (Below.refl _ _).alloc (Nat.le_refl _) _
  have hBr : B ≤ wr.heap.size := Nat.le_trans hB h.old.size
  refine ⟨?_, ?_, ?_⟩
  · refine owns_block (owns_up h.own hbel) (fun b C hC => ?_)
    have hbe' := blk_keep hbel (h.kept be _ 97 (by decide) hb)
    have n1 : b ≠ be := fun e => by subst e; rw [hC] at hbe'; simp at hbe'
    have n2 : b ≠ bo := fun e => by
      rcases ho with ⟨_, e2⟩ | ⟨_, Co, hCo, _⟩
      · exact n1 (e.trans e2)
      · have hbo' := blk_keep hbel (h.kept bo Co 4 (by decide) hCo)
        subst e; rw [hC] at hbo'; simp at hbo'
    rw [hbut.block b (lt_of_blk hC) n1 n2]; exact hC
  · exact (h.old.trans (hbel.mono hBr)).trans (hbut.below hbe hbo (Nat.le_trans hBr hbel.size))
  · intro b C t ht h1 h2 hC
    have := blk_keep hbel (h.kept b C t ht hC)
    rw [hbut.block b (lt_of_blk this) h1 h2]; exact this

set_option maxHeartbeats 1600000 in
set_option maxRecDepth 100000 in
theorem append_core (ba be bo n B no nm c : Nat) (ao : Option Addr) (v : Value) (xs : List Value) (ms : Nat → Msg) (vs : Nat → Value) (to : Int) (vr vo : Value) (ew : Bool) (w : World)
    (hn : n ≤ 65536) (h1 : 1 ≤ to) (h2 : to ≤ n) (hlen : no + nm ≤ 100000) (hB : B ≤ w.heap.size)
    (ha : w.cell? ⟨ba, 0, none⟩ = some (.int .i64 n)) (hba : ba < B) (hbe : B ≤ be) (hbo : B ≤ bo)
    (hb : w.heap[be]? = some (.cells #[.slice ao nm c, vr, .bool ew, vo] 97 (0, 0))) (ho : Owed w vo n be bo)
    (hok : ∀ i, i < nm → (ms i).ok) (hrow : ∀ i, i < nm → ∃ bm, ao = some ⟨bm, 0, none⟩ ∧ RowAt w bm 54 36 nm (fun i => (ms i).cells (vs i)) ∧ PayAt w (vs i) (ms i).p)
    (hown : w.ownsRow B 73 99 v no xs) :
    Calls Trym.prog 28 #[.pointer (some ⟨ba, 0, none⟩), v, .int .i64 to, .pointer (some ⟨be, 0, none⟩)] w fun e w' => ∃ v', e = .returned v' ∧ w'.ownsRow B 73 99 v' (no + nm) (xs ++ flat ms vs to nm) ∧ Below B w w' ∧
      ∀ (b : Nat) (C : Array Value) (t : TypeId), t ≠ 73 → b ≠ be → b ≠ bo → w.heap[b]? = some (.cells C t (0, 0)) → w'.heap[b]? = some (.cells C t (0, 0)) := by
  obtain ⟨i0, hi, hz0, hz1, hz2⟩ := info_parts zero73
  obtain ⟨Z, hZ⟩ : ∃ Z, Z = (abCells 0 rb0 0 0).toArray := ⟨_, rfl⟩
  have hzi := zero73
  rw [← hZ] at hz0 hzi
  have HZS : Hid ((Value.agg Z).cells.size = 99) := by show (Value.agg Z).cells.size = 99; rw [hZ]; decide +kernel
  have HZI : Hid ((Trym.prog.info? 73).map (fun i => (i.zero, i.size, i.bytes)) = some (some (.agg Z), 99, 488)) := hzi
  clear hZ hzi
  obtain ⟨hc0, _, _, _, _⟩ := cells_of_entry hb
  have HB : Hid (w.heap[be]? = some (.cells #[.slice ao nm c, vr, .bool ew, vo] 97 (0, 0))) := hb
  have HOW : Hid (Owed w vo n be bo) := ho
  have HA : Hid (w.cell? ⟨ba, 0, none⟩ = some (.int .i64 n)) := ha
  have HO : Hid (∀ i, i < nm → (ms i).ok) := hok
  have HR : Hid (∀ i, i < nm → ∃ bm, ao = some ⟨bm, 0, none⟩ ∧ RowAt w bm 54 36 nm (fun i => (ms i).cells (vs i)) ∧ PayAt w (vs i) (ms i).p) := hrow
  have HI : Hid (Trym.prog.info? 73 = some i0 ∧ i0.zero = some (.agg Z) ∧ i0.size = 99 ∧ i0.bytes = 488) := ⟨hi, hz0, hz1, hz2⟩
  have HP0 : Hid (Pile B no xs ms vs to w 0 v w) := ⟨by simpa [flat] using hown, Below.refl _ _, fun _ _ _ _ h => h⟩
  clear hb ho ha hok hrow hown hi hz0 hz1 hz2
  go_enter Trym.func28, Trym.ntmps28
  go_wp2
  go_loopw [1, 16] (fun v i wr => ∃ k : Nat, k ≤ nm ∧ i = .int .i64 k ∧ Pile B no xs ms vs to w k v wr) (fun _ i _ => nm - (intOf i).toNat)
  case atStart => exact ⟨0, Nat.zero_le _, rfl, HP0.out⟩
  case round =>
    obtain ⟨k, hk, rfl, hpile⟩ := hrel
    have HPI : Hid (Pile B no xs ms vs to w k u1 wr) := hpile
    clear hpile
    by_cases hlt : k < nm
    · obtain ⟨bm, rfl, hr0, hp0⟩ := HR.out k hlt
      obtain ⟨C0, hC0, _⟩ := hr0.blk
      have hlt0 : bm < w.heap.size := lt_of_blk hC0
      have hkb : wr.heap[bm]? = w.heap[bm]? := by rw [HPI.out.kept bm C0 54 (by decide) hC0, hC0]
      have hrng : wr.rangeAt bm (k * 36) ((ms k).cells (vs k)) := range_keep hkb (hr0.rng k hlt)
      have hlenR : ((ms k).cells (vs k)).length = 36 := Msg.len (HO.out k hlt) _
      have HONE : Hid (∀ u ∈ (ms k).cells (vs k), u.oneCell' = true) := Msg.one hp0.reads
      obtain ⟨R, hR⟩ : ∃ R, R = (ms k).cells (vs k) := ⟨_, rfl⟩
      rw [← hR] at hrng hlenR HONE
      have HR2 : Hid (R = (ms k).cells (vs k)) := hR
      have HLR : Hid (R.length = 36) := hlenR
      clear hR hlenR hr0 hp0 hC0 hlt0 hkb
      go_wp2_with (first | (refine wpList_load_mid rfl 54 (.tmp 18) rfl bm (k * 36) rfl R _ hrng Trym.underlying54 rfl (by rw [HLR.out]; kernel_rfl) ?_) | (refine wpList_store_row rfl 54 (.tmp 10) (.tmp 19) rfl wr.heap.size R.toArray rfl rfl 54 _ (heap_alloc_new wr _) (by simp only [List.size_toArray]; rw [HLR.out]; kernel_rfl) (by simp only [List.size_toArray]; rw [HLR.out]; rfl) (all_oneCell_toArray HONE.out) ?_) | (refine wpList_load_row rfl 54 (.tmp 10) rfl wr.heap.size rfl 54 R.toArray (0, 0) _ (setRow_heap _ _ _ _ _ _ (heap_alloc_new wr _)) Trym.underlying54 rfl (by simp only [List.size_toArray]; rw [HLR.out]; kernel_rfl) ?_) | (refine wpList_built rfl 73 _ rfl [(0, .int .u8 1), (1, .agg R.toArray)] rfl _ (built73 1 R HLR.out) ?_))
      generalize hW : World.setRow (World.alloc wr _) wr.heap.size R.toArray = W1
      have hWB : Below wr.heap.size wr W1 := by
        rw [← hW]; exact below_setRow ((Below.refl _ _).alloc (Nat.le_refl _) _) (Nat.le_refl _) _
      clear hW hrng
      refine (resent_ab R to W1 HLR.out HONE.out).mono ?_
      rintro e w1 ⟨rfl, hb1⟩
      have HBEL : Hid (Below wr.heap.size wr w1) := below_up hWB hb1
      clear hWB hb1 hc0
      have HBEL2 : Hid (Below wr.heap.size wr (w1.alloc (.cells (abCells 9 R to 1).toArray 73))) := HBEL.out.alloc HBEL.out.size _
      have hBs : B ≤ w1.heap.size + 1 := by
        have := HPI.out.old.size; have := HBEL.out.size; omega
      go_wp2_with (first | (refine wpList_buildSlice1 rfl 44 (.tmp 24) rfl 73 Z 99 488 Trym.underlying44 HZI.out (by decide) (by decide) (abCells 9 R to 1) (ab_len 9 to 1 HLR.out) rfl ?_) | (at_builtin; refine wpList_append_own _ rfl (.tmp 20) (.tmp 25) 44 rfl B 73 i0 (.agg Z) 99 488 Trym.underlying44 HI.out.1 HI.out.2.1 HI.out.2.2.1 HI.out.2.2.2 HZS.out (by decide) u1 (no + k) (xs ++ flat ms vs to k) rfl (owns_up HPI.out.own HBEL2.out) ⟨w1.heap.size, 0, none⟩ 1 1 (abCells 9 R to 1) rfl (by rw [ab_len 9 to 1 HLR.out]) (one_new _ _ _) (ab_one HONE.out) (by unfold maxLen; omega) (by omega) (by simpa using hBs) ?_))
      intro v' w2 hown' hgrow _
      have HPN : Hid (Pile B no xs ms vs to w (k + 1) v' w2) := HPI.out.next hB HBEL2.out (by rw [← HR2.out, List.append_assoc]; exact hown') hgrow
      clear hown' hgrow
      go_wp2
      go_roundw
      case rel => exact ⟨k + 1, by omega, by go_num, HPN.out⟩
      case measure => simp [intOf]; omega
    · have hkn : k = nm := by omega
      subst hkn
      have hca : wr.cell? ⟨ba, 0, none⟩ = some (.int .i64 n) := by rw [HPI.out.old.cell hba]; exact HA.out
      go_wp2_with fail
      refine (nodes_any _ _).mono ?_
      rintro e w' ⟨rfl, rfl⟩
      have hbel : Below wr.heap.size wr (wr.alloc (.cells #[.int .i64 (n : Int)] 86)) := (Below.refl _ _).alloc (Nat.le_refl _) _
      go_wp2_with fail
      refine (owe_any be bo n to _ vr vo ew _ hn h1 h2 (blk_keep hbel (HPI.out.kept be _ 97 (by decide) HB.out)) (HOW.out.up HPI.out.kept hbel)).mono ?_
      rintro e w2 ⟨rfl, hbut⟩
      have HBUT : Hid (But be bo (wr.alloc (.cells #[.int .i64 (n : Int)] 86)) w2) := hbut
      clear hbut hbel
      go_wp2
      go_ret
      exact ⟨_, rfl, pile_end HPI.out HB.out HOW.out hB hbe hbo HBUT.out⟩

/-- The wrapper. -/
theorem append_any (ba be bo n B no nm L : Nat) (vm v : Value) (xs : List Value) (ms : Nat → Msg) (vs : Nat → Value) (to : Int) (vr vo : Value) (ew : Bool) (w : World)
    (hn : n ≤ 65536) (h1 : 1 ≤ to) (h2 : to ≤ n) (hlen : no + nm ≤ 100000) (hB : B ≤ w.heap.size)
    (ha : w.cell? ⟨ba, 0, none⟩ = some (.int .i64 n)) (hba : ba < B) (hbe : B ≤ be) (hbo : B ≤ bo)
    (hb : w.heap[be]? = some (.cells #[vm, vr, .bool ew, vo] 97 (0, 0))) (ho : Owed w vo n be bo)
    (hok : ∀ i, i < nm → (ms i).ok) (hm : OwnRB 54 L w vm nm ms vs) (hown : w.ownsRow B 73 99 v no xs) :
    Calls Trym.prog 19 #[.pointer (some ⟨ba, 0, none⟩), v, .int .i64 to, .pointer (some ⟨be, 0, none⟩)] w fun e w' => ∃ v', e = .returned v' ∧ w'.ownsRow B 73 99 v' (no + nm) (xs ++ flat ms vs to nm) ∧ Below B w w' ∧
      ∀ (b : Nat) (C : Array Value) (t : TypeId), t ≠ 73 → b ≠ be → b ≠ bo → w.heap[b]? = some (.cells C t (0, 0)) → w'.heap[b]? = some (.cells C t (0, 0)) := by
  have hsl : ∃ ao c, vm = .slice ao nm c ∧ ∀ i, i < nm → ∃ bm, ao = some ⟨bm, 0, none⟩ ∧ RowAt w bm 54 36 nm (fun i => (ms i).cells (vs i)) ∧ PayAt w (vs i) (ms i).p := by
    rcases hm with ⟨rfl, rfl⟩ | ⟨b, rfl, _, hr, hp⟩
    · exact ⟨none, 0, rfl, fun i hi => absurd hi (Nat.not_lt_zero _)⟩
    · exact ⟨some ⟨b, 0, none⟩, nm, rfl, fun i hi => ⟨b, rfl, hr, hp i hi⟩⟩
  obtain ⟨ao, c, rfl, hrow⟩ := hsl
  have HC := append_core ba be bo n B no nm c ao v xs ms vs to vr vo ew w hn h1 h2 hlen hB ha hba hbe hbo hb ho hok hrow hown
  clear hrow hm hown hok ho hb ha
  go_enter Trym.func19, Trym.ntmps19
  go_wp2_with fail
  refine HC.mono ?_
  clear HC
  rintro e w1 ⟨v', rfl, h⟩
  go_wp2
  go_ret
  exact ⟨v', rfl, h⟩
end Go.Proofs.Qxb6615968aMods.Cut
