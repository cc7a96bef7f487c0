/-
  The ground for the walks of 'FnAppendEntryResentCut': worlds, rows of structs, payloads. No Go text is walked here.
-/
import Derived.Test.Qxb6615968aModsProg
import Derived.WalkKit
import Derived.WalkSpells
import Derived.Deep.MidRow
import Derived.Deep.OwnRows
import Derived.Deep.RegionHeld2
import Derived.Deep.QuietTactic
import Derived.BigQuiet
import Derived.KernelRfl
namespace Go.Proofs.Qxb6615968aMods.Cut
open Go Go.RowKit

/-! ### Worlds behind a store of many cells -/
theorem heap_setCells_other (b : Nat) : ∀ (vs : List Value) (o : Nat) (w : World) (k : Nat), k ≠ b → (w.setCells b o vs).heap[k]? = w.heap[k]?
  | [], _, _, _, _ => rfl
  | v :: r, o, w, k, h => by
    rw [World.setCells, heap_setCells_other b r (o + 1) _ k h, Below.heap_setCell _ _ _ _ (by simpa using h)]

theorem size_setCells (b : Nat) : ∀ (vs : List Value) (o : Nat) (w : World), (w.setCells b o vs).heap.size = w.heap.size
  | [], _, _ => rfl
  | v :: r, o, w => by rw [World.setCells, size_setCells b r (o + 1)]; simp [World.setCell]

theorem setCells_block (b : Nat) (t : TypeId) : ∀ (vs : List Value) (o : Nat) (w : World) (C : Array Value), w.heap[b]? = some (.cells C t (0, 0)) →
    ∃ C', (w.setCells b o vs).heap[b]? = some (.cells C' t (0, 0)) ∧ C'.size = C.size
  | [], _, _, C, h => ⟨C, h, rfl⟩
  | v :: r, o, w, C, h => by
    rw [World.setCells]
    obtain ⟨C', h1, h2⟩ := setCells_block b t r (o + 1) (w.setCell ⟨b, o, none⟩ v) (C.setIfInBounds o v) (by simp [World.setCell, Array.getElem?_modify, h])
    exact ⟨C', h1, by simpa using h2⟩

theorem below_setCells {B : Nat} {a : World} (b : Nat) (hb : B ≤ b) : ∀ (vs : List Value) (o : Nat) (w : World), Below B a w → Below B a (w.setCells b o vs)
  | [], _, _, h => h
  | v :: r, o, w, h => by rw [World.setCells]; exact below_setCells b hb r (o + 1) _ (h.setCell (p := ⟨b, o, none⟩) hb v)

theorem lt_of_blk {w : World} {b : Nat} {o : Obj} (h : w.heap[b]? = some o) : b < w.heap.size := (Array.getElem?_eq_some_iff.1 h).1

/-- A block that is there is there behind whatever keeps what was there. -/
theorem blk_keep {w w' : World} (h : Below w.heap.size w w') {b : Nat} {o : Obj} (hb : w.heap[b]? = some o) : w'.heap[b]? = some o := by
  rw [h.block b (lt_of_blk hb)]; exact hb

theorem below_up {w w1 w2 : World} (h1 : Below w.heap.size w w1) (h2 : Below w1.heap.size w1 w2) : Below w.heap.size w w2 :=
  h1.trans (h2.mono h1.size)

theorem range_keep {w w' : World} {b o : Nat} {cs : List Value} (e : w'.heap[b]? = w.heap[b]?) (h : w.rangeAt b o cs) : w'.rangeAt b o cs := fun j v hv => by
  rw [World.cell?_of_block (w := w) (a := ⟨b, o + j, none⟩) e]; exact h j v hv

theorem there_keep {w w' : World} {b o n : Nat} (e : w'.heap[b]? = w.heap[b]?) (h : w.there b o n) : w'.there b o n := fun j hj => by
  rw [World.cell?_of_block (w := w) (a := ⟨b, o + j, none⟩) e, World.frozen?_of_block (w := w) (a := ⟨b, o + j, none⟩) e]; exact h j hj

theorem range_below {B : Nat} {w w' : World} {b o : Nat} {cs : List Value} (hb : Below B w w') (hlt : b < B) (h : w.rangeAt b o cs) : w'.rangeAt b o cs :=
  range_keep (hb.block b hlt) h

/-- A whole block as a range. -/
theorem range_of_blk {w : World} {b : Nat} {cs : List Value} {t : TypeId} {fr : Nat × Nat} (h : w.heap[b]? = some (.cells cs.toArray t fr)) (o n : Nat) : w.rangeAt b o ((cs.drop o).take n) := fun j v hv => by
  rw [cell_of_row w b (o + j) _ t fr h]
  rw [List.getElem?_take] at hv
  split at hv
  · rw [List.getElem?_drop] at hv; simpa using hv
  · cases hv

theorem there_of_blk {w : World} {b : Nat} {C : Array Value} {t : TypeId} (h : w.heap[b]? = some (.cells C t (0, 0))) {o n : Nat} (hn : o + n ≤ C.size) : w.there b o n := fun j hj => by
  refine ⟨?_, frozen_of_row w b (o + j) C t h⟩
  rw [cell_of_row w b (o + j) _ t (0, 0) h, Array.getElem?_eq_getElem (by omega)]; rfl

/-! ### A row of structs: element i's cells are 'E i' -/
structure RowAt (w : World) (b : Nat) (t : TypeId) (sz n : Nat) (E : Nat → List Value) : Prop where
  blk : ∃ C, w.heap[b]? = some (.cells C t (0, 0)) ∧ C.size = n * sz
  rng : ∀ i, i < n → w.rangeAt b (i * sz) (E i)
  len : ∀ i, i < n → (E i).length = sz

section
variable {w w' : World} {b : Nat} {t : TypeId} {sz n : Nat} {E E' : Nat → List Value}
theorem RowAt.lt (h : RowAt w b t sz n E) : b < w.heap.size := by
  obtain ⟨C, hc, _⟩ := h.blk; exact lt_of_blk hc
theorem RowAt.there (h : RowAt w b t sz n E) {i : Nat} (hi : i < n) : w.there b (i * sz) sz := by
  obtain ⟨C, hc, hs⟩ := h.blk
  refine there_of_blk hc ?_
  have : (i + 1) * sz ≤ n * sz := Nat.mul_le_mul_right _ hi
  rw [Nat.add_mul] at this; omega
theorem RowAt.keep (h : RowAt w b t sz n E) (e : w'.heap[b]? = w.heap[b]?) : RowAt w' b t sz n E := by
  obtain ⟨C, hc, hs⟩ := h.blk
  exact ⟨⟨C, by rw [e]; exact hc, hs⟩, fun i hi => range_keep e (h.rng i hi), h.len⟩
theorem RowAt.congr (h : RowAt w b t sz n E) (e : ∀ i, i < n → E i = E' i) : RowAt w b t sz n E' :=
  ⟨h.blk, fun i hi => by rw [← e i hi]; exact h.rng i hi, fun i hi => by rw [← e i hi]; exact h.len i hi⟩
theorem RowAt.set (h : RowAt w b t sz n E) {k : Nat} (hk : k < n) {cs : List Value} (hl : cs.length = sz) :
    RowAt (w.setCells b (k * sz) cs) b t sz n (fun i => if i = k then cs else E i) := by
  obtain ⟨C, hc, hs⟩ := h.blk
  obtain ⟨C', hc', hs'⟩ := setCells_block b t cs (k * sz) w C hc
  refine ⟨⟨C', hc', hs'.trans hs⟩, fun i hi => ?_, fun i hi => ?_⟩
  · by_cases e : i = k
    · subst e
      rw [if_pos rfl]
      exact World.rangeAt_setCells_same _ _ _ _ (by rw [hl]; exact h.there hk)
    · rw [if_neg e]
      refine World.rangeAt_setCells_apart (h.rng i hi) b (k * sz) cs (Or.inr ?_)
      rw [h.len i hi, hl]
      rcases Nat.lt_or_gt_of_ne e with h1 | h1
      · left
        have : (i + 1) * sz ≤ k * sz := Nat.mul_le_mul_right _ h1
        rw [Nat.add_mul] at this; omega
      · right
        have : (k + 1) * sz ≤ i * sz := Nat.mul_le_mul_right _ h1
        rw [Nat.add_mul] at this; omega
  · by_cases e : i = k
    · subst e; rw [if_pos rfl]; exact hl
    · rw [if_neg e]; exact h.len i hi
end

/-- What 'make' lays: every element is the zero value. -/
theorem row_made (w : World) (Z : Array Value) (t : TypeId) (n sz : Nat) (hz : Z.size = sz) :
    RowAt (w.alloc (.cells (madeCells Z (n * sz)) t)) w.heap.size t sz n (fun _ => Z.toList) := by
  have hb : (w.alloc (.cells (madeCells Z (n * sz)) t)).heap[w.heap.size]? = some (.cells (madeCells Z (n * sz)) t (0, 0)) := heap_alloc_new _ _
  refine ⟨⟨_, hb, size_madeCells _ _⟩, fun i hi => ?_, fun i _ => by simpa using hz⟩
  intro j v hv
  have hj : j < sz := by have := (List.getElem?_eq_some_iff.1 hv).1; simpa [hz] using this
  rw [cell_of_row _ _ _ _ _ _ hb]
  have hlt : i * sz + j < n * sz := by
    have : (i + 1) * sz ≤ n * sz := Nat.mul_le_mul_right _ hi
    rw [Nat.add_mul] at this; omega
  have hm : (i * sz + j) % Z.size = j := by rw [hz, Nat.mul_comm, Nat.mul_add_mod, Nat.mod_eq_of_lt hj]
  simp only [madeCells, Array.getElem?_map]
  rw [Array.getElem?_eq_getElem (by simpa using hlt)]
  simp only [Array.getElem_range, Option.map_some, hm]
  rw [Array.getElem?_toList] at hv
  rw [getElem!_def, hv]

/-! ### Payloads -/
def ints (l : List Int) : List Value := l.map (Value.int .u8)
theorem ints_len (l : List Int) : (ints l).length = l.length := by simp [ints]
theorem ints_one (l : List Int) : ∀ u ∈ ints l, u.oneCell' = true := fun u hu => by
  obtain ⟨x, _, rfl⟩ := List.mem_map.1 hu; rfl

/-- A '[]byte' whose bytes are 'zs', wherever it lies. -/
def Reads (w : World) (v : Value) (zs : List Int) : Prop :=
  (v = .slice none 0 0 ∧ zs = []) ∨ ∃ a cap, v = .slice (some a) zs.length cap ∧ ∀ j, j < zs.length → w.cell? (a.add j) = some (.int .u8 (zs.getD j 0))

/-- A '[]byte' in a block of its own. -/
def PayAt (w : World) (v : Value) (zs : List Int) : Prop :=
  (v = .slice none 0 0 ∧ zs = []) ∨ ∃ b, v = .slice (some ⟨b, 0, none⟩) zs.length zs.length ∧ w.heap[b]? = some (.cells (ints zs).toArray 5 (0, 0))

theorem PayAt.reads {w : World} {v : Value} {zs : List Int} (h : PayAt w v zs) : Reads w v zs := by
  rcases h with h | ⟨b, rfl, hb⟩
  · exact .inl h
  · refine .inr ⟨_, _, rfl, fun j hj => ?_⟩
    rw [Addr.add_lit, Nat.zero_add, cell_of_row _ _ _ _ _ _ hb]
    simp [ints, hj]

/-- Blocks of bytes stay. -/
def Keep5 (w w' : World) : Prop := ∀ (b : Nat) (C : Array Value), w.heap[b]? = some (.cells C 5 (0, 0)) → w'.heap[b]? = some (.cells C 5 (0, 0))
theorem PayAt.keep {w w' : World} {v : Value} {zs : List Int} (h : PayAt w v zs) (k : Keep5 w w') : PayAt w' v zs := by
  rcases h with h | ⟨b, hv, hb⟩
  · exact .inl h
  · exact .inr ⟨b, hv, k _ _ hb⟩
theorem keep5_of_below {w w' : World} (h : Below w.heap.size w w') : Keep5 w w' := fun _ _ hb => blk_keep h hb
theorem PayAt.up {w w' : World} {v : Value} {zs : List Int} (h : PayAt w v zs) (k : Below w.heap.size w w') : PayAt w' v zs := h.keep (keep5_of_below k)
theorem PayAt.slice {w : World} {v : Value} {zs : List Int} (h : PayAt w v zs) : ∃ ao c, v = .slice ao zs.length c := by
  rcases h with ⟨rfl, rfl⟩ | ⟨b, rfl, _⟩
  · exact ⟨_, _, rfl⟩
  · exact ⟨_, _, rfl⟩
theorem Reads.slice {w : World} {v : Value} {zs : List Int} (h : Reads w v zs) : ∃ ao c, v = .slice ao zs.length c := by
  rcases h with ⟨rfl, rfl⟩ | ⟨a, c, rfl, _⟩
  · exact ⟨_, _, rfl⟩
  · exact ⟨_, _, rfl⟩

/-! ### Messages -/
structure Msg where
  k : Int
  s : Int
  q : Int
  p : List Int
  d : List Int

def Msg.ok (m : Msg) : Prop := m.d.length = 32 ∧ m.p.length ≤ 1048576
/-- The 36 cells of an RB or an RBMessage; v: the payload's slice value. -/
def Msg.cells (m : Msg) (v : Value) : List Value := .int .u8 m.k :: .int .i64 m.s :: .int .u64 m.q :: v :: ints m.d
theorem Msg.len {m : Msg} (h : m.ok) (v : Value) : (m.cells v).length = 36 := by simp [Msg.cells, ints_len, h.1]
theorem Msg.one {m : Msg} {w : World} {v : Value} (h : Reads w v m.p) : ∀ u ∈ m.cells v, u.oneCell' = true := fun u hu => by
  obtain ⟨ao, c, rfl⟩ := h.slice
  simp only [Msg.cells, List.mem_cons] at hu
  rcases hu with rfl | rfl | rfl | rfl | hu
  · rfl
  · rfl
  · rfl
  · rfl
  · exact ints_one _ _ hu

theorem Trym.bytes5 : (Trym.prog.info? 5).map (fun i => (i.zero, i.size, i.bytes)) = some (some (.int .u8 0), 1, 1) := by kernel_rfl
theorem Trym.bytes4 : (Trym.prog.info? 4).map (fun i => (i.zero, i.size, i.bytes)) = some (some (.bool false), 1, 1) := by kernel_rfl
end Go.Proofs.Qxb6615968aMods.Cut
