/-
  What 'build' makes of a struct whose parts are rows: RB, RBMessage, Out, ABMessage.
-/
import Derived.Test.Qxb6615968aModsBytes
namespace Go.Proofs.Qxb6615968aMods.Cut
open Go Go.RowKit

theorem list_put (off : Nat) : ∀ (l : List Value) (n : Nat) (cells : Array Value), off + n + l.length ≤ cells.size →
    (l.zipIdx n).foldl (fun cs (x : Value × Nat) => cs.setIfInBounds (off + x.2) x.1) cells = (cells.toList.take (off + n) ++ l ++ cells.toList.drop (off + n + l.length)).toArray
  | [], n, cells, _ => by simp
  | v :: r, n, cells, h => by
    simp only [List.length_cons] at h
    rw [List.zipIdx_cons, List.foldl_cons, list_put off r (n + 1) _ (by simp; omega)]
    congr 1
    simp only [Array.toList_setIfInBounds, List.length_cons]
    rw [List.drop_set, if_pos (by omega), show off + (n + 1) = off + n + 1 by omega, show off + n + 1 + r.length = off + n + (r.length + 1) by omega]
    have h1 : (cells.toList.set (off + n) v).take (off + n + 1) = cells.toList.take (off + n) ++ [v] := by
      rw [List.take_add_one]
      simp [List.take_set_of_le, show off + n < cells.size by omega]
    rw [h1]; simp

theorem fill_one {place : Nat → Option (Nat × Nat)} {cells : List Value} {i : Nat} {v : Value} {rest : List (Nat × Value)} (off size : Nat) (hp : place i = some (off, size)) (vs : List Value) (hv : v.cells = vs.toArray)
    (hs : vs.length = size) (hl : off + size ≤ cells.length) :
    Instr.fill place cells.toArray ((i, v) :: rest) = Instr.fill place (cells.take off ++ vs ++ cells.drop (off + size)).toArray rest := by
  subst hs
  rw [Instr.fill, hp]
  simp only [hv]
  rw [if_neg (by simp; omega)]
  congr 1
  have := list_put off vs 0 cells.toArray (by simpa using hl)
  simp only [Nat.add_zero] at this
  rw [← this]
  simp

def rb0 : List Value := .int .u8 0 :: .int .i64 0 :: .int .u64 0 :: .slice none 0 0 :: ints (List.replicate 32 0)
def t60 : List Value := [.int .u8 0, .int .u64 0] ++ rb0 ++ [.int .u8 0, .int .u64 0, .int .u64 0, .int .u8 0, .slice none 0 0, .int .i64 0, .slice none 0 0, .int .u64 0, .bool false, .slice none 0 0, .slice none 0 0,
  .int .i64 0, .int .u64 0, .slice none 0 0, .slice none 0 0, .int .u64 0, .int .i64 0, .int .u64 0, .slice none 0 0, .int .i64 0, .int .u64 0, .int .u64 0]
/-- The 99 cells of an ABMessage: its kind, its RB, nothing, whom it is sent again for. -/
def abCells (k : Int) (R : List Value) (to rk : Int) : List Value := .int .u8 k :: (R ++ (t60 ++ [.int .i64 to, .int .u8 rk]))
theorem t60_len : t60.length = 60 := by decide +kernel
theorem ab_len (k to rk : Int) {R : List Value} (h : R.length = 36) : (abCells k R to rk).length = 99 := by simp [abCells, h, t60_len]

theorem zero75 : (Trym.prog.info? 75).map (fun i => (i.zero, i.size, i.bytes)) = some (some (.agg rb0.toArray), 36, 80) := by kernel_rfl
theorem zero54 : (Trym.prog.info? 54).map (fun i => (i.zero, i.size, i.bytes)) = some (some (.agg rb0.toArray), 36, 80) := by kernel_rfl
theorem zero77 : (Trym.prog.info? 77).map (fun i => (i.zero, i.size, i.bytes)) = some (some (.agg (.int .u8 0 :: rb0).toArray), 37, 88) := by kernel_rfl
theorem zero73 : (Trym.prog.info? 73).map (fun i => (i.zero, i.size, i.bytes)) = some (some (.agg (abCells 0 rb0 0 0).toArray), 99, 488) := by kernel_rfl
theorem fill75 (ps : List (Nat × Value)) : Trym.prog.built 75 ps = Instr.fill (#[(0, 1), (1, 1), (2, 1), (3, 1), (4, 32)][·]?) rb0.toArray ps := by kernel_rfl
theorem fill54 (ps : List (Nat × Value)) : Trym.prog.built 54 ps = Instr.fill (#[(0, 1), (1, 1), (2, 1), (3, 1), (4, 32)][·]?) rb0.toArray ps := by kernel_rfl
theorem fill77 (ps : List (Nat × Value)) : Trym.prog.built 77 ps = Instr.fill (#[(0, 1), (1, 36)][·]?) (.int .u8 0 :: rb0).toArray ps := by kernel_rfl
theorem fill73 (ps : List (Nat × Value)) : Trym.prog.built 73 ps = Instr.fill (#[(0, 1), (1, 36), (37, 43), (80, 2), (82, 1), (83, 1), (84, 1), (85, 1), (86, 8), (94, 3), (97, 2)][·]?) (abCells 0 rb0 0 0).toArray ps := by kernel_rfl

theorem fillRB (k s q : Int) (ao : Option Addr) (n c : Nat) (D : List Value) (hD : D.length = 32) :
    Instr.fill (#[(0, 1), (1, 1), (2, 1), (3, 1), (4, 32)][·]?) rb0.toArray [(0, .int .u8 k), (1, .int .i64 s), (2, .int .u64 q), (3, .slice ao n c), (4, .agg D.toArray)] =
      some (.int .u8 k :: .int .i64 s :: .int .u64 q :: .slice ao n c :: D).toArray := by
  unfold rb0
  rw [fill_one 0 1 rfl [_] rfl rfl (by simp), fill_one 1 1 rfl [_] rfl rfl (by simp), fill_one 2 1 rfl [_] rfl rfl (by simp), fill_one 3 1 rfl [_] rfl rfl (by simp), fill_one 4 32 rfl D rfl hD (by simp [ints])]
  simp [Instr.fill, ints]

theorem built75 (k s q : Int) (ao : Option Addr) (n c : Nat) (D : List Value) (hD : D.length = 32) :
    Trym.prog.built 75 [(0, .int .u8 k), (1, .int .i64 s), (2, .int .u64 q), (3, .slice ao n c), (4, .agg D.toArray)] = some (.int .u8 k :: .int .i64 s :: .int .u64 q :: .slice ao n c :: D).toArray := by
  rw [fill75, fillRB _ _ _ _ _ _ _ hD]
theorem built54 (k s q : Int) (ao : Option Addr) (n c : Nat) (D : List Value) (hD : D.length = 32) :
    Trym.prog.built 54 [(0, .int .u8 k), (1, .int .i64 s), (2, .int .u64 q), (3, .slice ao n c), (4, .agg D.toArray)] = some (.int .u8 k :: .int .i64 s :: .int .u64 q :: .slice ao n c :: D).toArray := by
  rw [fill54, fillRB _ _ _ _ _ _ _ hD]
theorem rb0_len : rb0.length = 36 := by decide +kernel
theorem built77 (k : Int) (R : List Value) (hR : R.length = 36) : Trym.prog.built 77 [(0, .int .u8 k), (1, .agg R.toArray)] = some (.int .u8 k :: R).toArray := by
  have h := rb0_len
  rw [fill77, fill_one 0 1 rfl [_] rfl rfl (by simp), fill_one 1 36 rfl R rfl hR (by simp [h])]
  simp [Instr.fill, h]
theorem built73 (k : Int) (R : List Value) (hR : R.length = 36) : Trym.prog.built 73 [(0, .int .u8 k), (1, .agg R.toArray)] = some (abCells k R 0 0).toArray := by
  have h := rb0_len
  rw [fill73]
  unfold abCells
  rw [fill_one 0 1 rfl [_] rfl rfl (by simp), fill_one 1 36 rfl R rfl hR (by simp [h])]
  simp [Instr.fill, h, List.drop_append]

/-! ### The operations' laws -/
section
variable {P : Program}
theorem wpList_built {ops : Array Oper} {rest : List Oper} {o : Oper} {a : Act} {w : World} {Q : Exit → Act → World → Prop} (hg : o.guard = none) (t : TypeId) (l : List (Nat × Operand)) (ho : o.op = .build t l.toArray)
    (ps : List (Nat × Value)) (hps : l.map (fun p => (p.1, a.eval p.2)) = ps) (C : Array Value) (hC : P.built t ps = some C)
    (h : wpList P ops Q rest (a.put o.dst (.agg C)) w) : wpList P ops Q (o :: rest) a w := by
  have e : (l.toArray.map fun (i, x) => (i, a.eval x)).toList = ps := by rw [← hps]; simp
  refine wpList_build hg t l.toArray ho (by rw [e, hC]; rfl) ?_
  rw [e, hC]; exact h
theorem yieldsIf_built {ops : Array Oper} {S : World → Prop} {o : Oper} {a : Act} (hw : Region.wanted o (yielded ops a.tmps) = true) (t : TypeId) (l : List (Nat × Operand)) (ho : o.op = .build t l.toArray)
    (ps : List (Nat × Value)) (hps : l.map (fun p => (p.1, a.eval p.2)) = ps) (C : Array Value) (hC : P.built t ps = some C) : YieldsIf P ops S o (.agg C) a :=
  .inl ⟨hw, fun w _ => by
    have e : (l.toArray.map fun (i, x) => (i, a.eval x)).toList = ps := by rw [← hps]; simp
    have hr := run_build (P := P) w t (l.toArray.map fun (i, x) => (i, a.eval x)) C (by rw [e]; exact hC)
    unfold execOp
    simp only [ho, Sem.run_bind, hr, Result.andThen_ok]
    rfl⟩
theorem at_list {l : List Oper} {i : Nat} {o : Oper} (h : l[i]? = some o) : l.toArray[i]? = some o := by simpa using h
/-- A region that draws, begun: the flags written out. -/
theorem region_start {l : List Oper} {id : Nat} {a : Act} {w : World} {Q : Exit → Act → World → Prop} {S : World → Prop} (hm : P.follows .mixedOrders = true) (hS : S w.drew) (n : Nat) (hn : l.length = n) (bs : List Bool) (hbs : List.replicate n false = bs)
    (h : S w.drew → wpAnyH P .any l.toArray Q S n bs.toArray a w.drew) : (Code.region id l.toArray true).wp P Q a w :=
  wp_region_held_drew hm hS (fun hS' => by
    subst hn
    subst hbs
    have := h hS'
    simpa using this)
/-- What is left waits for one operation. -/
theorem region_one {l : List Oper} {i : Nat} {o : Oper} {Q : Exit → Act → World → Prop} {S : World → Prop} {md : Region.Mode} {fuel : Nat} {bs : List Bool} {a : Act} {w : World} (ho : l[i]? = some o)
    (hr : Region.ready md l.toArray bs.toArray = [i]) (hw : Region.wanted o (yielded l.toArray a.tmps) = true)
    (h : ∀ K : Act → World → Prop, Shut (∀ a w, S w → wpAnyH P md l.toArray Q S fuel (bs.set i true).toArray a w → K a w) → Oper.wp P o a w K Q) : wpAnyH P md l.toArray Q S (fuel + 1) bs.toArray a w := by
  refine wpAnyH_ready hr (by simp) (AllReadyH.cons (at_list ho) (fun K hK => ?_) AllReadyH.nil)
  rw [if_pos hw]
  exact h K (fun a w hS hW => hK.out a w hS (fun _ => by simpa using hW))
end
end Go.Proofs.Qxb6615968aMods.Cut
