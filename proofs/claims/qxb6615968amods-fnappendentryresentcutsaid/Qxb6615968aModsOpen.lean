/-
  The arguments that came in, opened: rows of flags, of outgoing messages, of messages.
-/
import Derived.Test.Qxb6615968aModsOuts
import Derived.OpenShut
import Derived.Deep.Slices
namespace Go.Proofs.Qxb6615968aMods.Cut
open Go Go.RowKit Go.ChangeShapes Go.WideShapes

/-! ### Lists -/
theorem parts36 {cs D : List Value} {c0 c1 c2 c3 : Value} (hl : cs.length = 36) (h0 : (cs.drop 0).take 1 = [c0]) (h1 : (cs.drop 1).take 1 = [c1]) (h2 : (cs.drop 2).take 1 = [c2]) (h3 : (cs.drop 3).take 1 = [c3])
    (h4 : (cs.drop 4).take 32 = D) : cs = c0 :: c1 :: c2 :: c3 :: D := by
  match cs, hl with
  | x0 :: x1 :: x2 :: x3 :: X, hl =>
    simp only [List.length_cons, Nat.reduceEqDiff] at hl
    simp only [List.drop_succ_cons, List.drop_zero, List.take_succ_cons, List.take_zero, List.cons.injEq, and_true] at h0 h1 h2 h3 h4
    rw [List.take_of_length_le (by omega)] at h4
    rw [h0, h1, h2, h3, h4]
theorem parts37 {cs D : List Value} {c0 : Value} (hl : cs.length = 37) (h0 : (cs.drop 0).take 1 = [c0]) (h1 : (cs.drop 1).take 36 = D) : cs = c0 :: D := by
  match cs, hl with
  | x0 :: X, hl =>
    simp only [List.length_cons, Nat.reduceEqDiff] at hl
    simp only [List.drop_succ_cons, List.drop_zero, List.take_succ_cons, List.take_zero, List.cons.injEq, and_true] at h0 h1
    rw [List.take_of_length_le (by omega)] at h1
    rw [h0, h1]

/-- Thirty-two bytes. -/
theorem bytes_of {cs : List Value} {n : Nat} (hl : cs.length = n) (h : ∀ i, i < n → ∃ z, (cs.drop i).take 1 = [.int .u8 z]) : ∃ d : List Int, d.length = n ∧ cs = ints d := by
  obtain ⟨f, hf⟩ := Go.Deep.choose_lt (α := Int) h
  refine ⟨(List.range n).map f, by simp, ?_⟩
  apply List.ext_getElem?
  intro i
  by_cases hi : i < n
  · have h1 := congrArg (·[0]?) (hf i hi)
    simp only [List.getElem?_take, List.getElem?_drop] at h1
    simp [ints, hi] at h1 ⊢
    exact h1
  · rw [List.getElem?_eq_none (by omega), List.getElem?_eq_none (by simp [ints]; omega)]

section
variable {H : Type} {enc : TypeId × Value → H} {w : World} {fuel : Nat} {cs : List Value} {x : DataW H × List MemPlace}

theorem open_pay (h : DataW.trod enc Trym.prog w 0 (fun _ => true) true fuel 50 cs = some x) : ∃ v zs, cs = [v] ∧ Reads w v zs := by
  rcases open_ints Trym.underlying50 Trym.underlying5 (by kernel_rfl) h with ⟨rfl, _⟩ | ⟨a, len, cap, zs, rfl, _, hl, _, hz, _, hcell, _⟩
  · exact ⟨_, [], rfl, .inl ⟨rfl, rfl⟩⟩
  · have hz' : zs.length = cap := by simpa using hz
    have hlen : (zs.take len).length = len := by rw [List.length_take, hz']; omega
    refine ⟨_, zs.take len, rfl, .inr ⟨a, cap, by rw [hlen], fun j hj => ?_⟩⟩
    rw [hlen] at hj
    rw [hcell j (by omega)]
    simp [List.getD, hj]

theorem open_digest (h : DataW.trod enc Trym.prog w 0 (fun _ => true) true fuel 51 cs = some x) : ∃ d : List Int, d.length = 32 ∧ cs = ints d := by
  obtain ⟨xs, m, _, _, hl, hxl, he⟩ := DataW.trod_array Trym.underlying51 h
  have h1 : Trym.prog.cellsOf 5 = 1 := by kernel_rfl
  have h32 : Trym.prog.cellsOf 51 = 32 := by kernel_rfl
  rw [h32] at hl
  refine bytes_of hl fun i hi => ?_
  have hx := he i hi
  rw [h1, Nat.mul_one, List.getElem?_eq_getElem (by omega)] at hx
  obtain ⟨z, hz, _⟩ := DataW.trod_int Trym.underlying5 hx
  exact ⟨z, hz⟩

theorem open_rb (h : DataW.trod enc Trym.prog w 0 (fun _ => true) true fuel 75 cs = some x) : ∃ (m : Msg) (v : Value), cs = m.cells v ∧ Reads w v m.p ∧ m.d.length = 32 := by
  obtain ⟨xs, n, _, _, hl, hxl, hf⟩ := DataW.trod_struct Trym.underlying75 h
  have c75 : Trym.prog.cellsOf 75 = 36 := by kernel_rfl
  have c5 : Trym.prog.cellsOf 5 = 1 := by kernel_rfl
  have c3 : Trym.prog.cellsOf 3 = 1 := by kernel_rfl
  have c22 : Trym.prog.cellsOf 22 = 1 := by kernel_rfl
  have c50 : Trym.prog.cellsOf 50 = 1 := by kernel_rfl
  have c51 : Trym.prog.cellsOf 51 = 32 := by kernel_rfl
  rw [c75] at hl
  have hxl' : xs.length = 5 := hxl
  have f0 : DataW.trod enc Trym.prog w 0 (fun _ => true) true n 5 ((cs.drop 0).take (Trym.prog.cellsOf 5)) = xs[0]? := hf 0 _ rfl
  have f1 : DataW.trod enc Trym.prog w 0 (fun _ => true) true n 3 ((cs.drop 1).take (Trym.prog.cellsOf 3)) = xs[1]? := hf 1 _ rfl
  have f2 : DataW.trod enc Trym.prog w 0 (fun _ => true) true n 22 ((cs.drop 2).take (Trym.prog.cellsOf 22)) = xs[2]? := hf 2 _ rfl
  have f3 : DataW.trod enc Trym.prog w 0 (fun _ => true) true n 50 ((cs.drop 3).take (Trym.prog.cellsOf 50)) = xs[3]? := hf 3 _ rfl
  have f4 : DataW.trod enc Trym.prog w 0 (fun _ => true) true n 51 ((cs.drop 4).take (Trym.prog.cellsOf 51)) = xs[4]? := hf 4 _ rfl
  rw [c5] at f0
  rw [c3] at f1
  rw [c22] at f2
  rw [c50] at f3
  rw [c51] at f4
  rw [List.getElem?_eq_getElem (by omega)] at f0 f1 f2 f3 f4
  obtain ⟨k, h0, _⟩ := DataW.trod_int Trym.underlying5 f0
  obtain ⟨s, h1, _⟩ := DataW.trod_int Trym.underlying3 f1
  obtain ⟨q, h2, _⟩ := DataW.trod_int Trym.underlying22 f2
  obtain ⟨v, zs, h3, hr⟩ := open_pay f3
  obtain ⟨d, hd, h4⟩ := open_digest f4
  exact ⟨⟨k, s, q, zs, d⟩, v, parts36 hl h0 h1 h2 h3 h4, hr, hd⟩

theorem open_out1 (h : DataW.trod enc Trym.prog w 0 (fun _ => true) true fuel 77 cs = some x) : ∃ (ko : Int) (m : Msg) (v : Value), cs = .int .u8 ko :: m.cells v ∧ Reads w v m.p ∧ m.d.length = 32 := by
  obtain ⟨xs, n, _, _, hl, hxl, hf⟩ := DataW.trod_struct Trym.underlying77 h
  have c77 : Trym.prog.cellsOf 77 = 37 := by kernel_rfl
  have c75 : Trym.prog.cellsOf 75 = 36 := by kernel_rfl
  have c5 : Trym.prog.cellsOf 5 = 1 := by kernel_rfl
  rw [c77] at hl
  have hxl' : xs.length = 2 := hxl
  have f0 : DataW.trod enc Trym.prog w 0 (fun _ => true) true n 5 ((cs.drop 0).take (Trym.prog.cellsOf 5)) = xs[0]? := hf 0 _ rfl
  have f1 : DataW.trod enc Trym.prog w 0 (fun _ => true) true n 75 ((cs.drop 1).take (Trym.prog.cellsOf 75)) = xs[1]? := hf 1 _ rfl
  rw [c5] at f0
  rw [c75] at f1
  rw [List.getElem?_eq_getElem (by omega)] at f0 f1
  obtain ⟨k, h0, _⟩ := DataW.trod_int Trym.underlying5 f0
  obtain ⟨m, v, h1, hr, hd⟩ := open_rb f1
  exact ⟨k, m, v, parts37 hl h0 h1, hr, hd⟩

/-- The cells of an element, as a range. -/
theorem spot_of_cells {a : Addr} {n : Nat} (hl : 0 < n) (h : w.cells? 0 (a.add (0 * n)) n = some cs) : a.spot = none := by
  obtain ⟨_, hlen, hc⟩ := World.cells?_some h
  have h0 := hc 0 hl
  rw [List.getElem?_eq_getElem (by omega), Nat.zero_mul] at h0
  have e : (a.add 0).add 0 = a := by simp [Addr.add]
  rw [e] at h0
  exact World.cell?_spot h0
theorem range_of_cells {a : Addr} {n i : Nat} (hs : a.spot = none) (h : w.cells? 0 (a.add (i * n)) n = some cs) : w.rangeAt a.block (a.off + i * n) cs := by
  obtain ⟨_, hlen, hc⟩ := World.cells?_some h
  intro j v hv
  have hj : j < n := by
    rw [← hlen]
    exact (List.getElem?_eq_some_iff.1 hv).1
  have h1 := hc j hj
  rw [hv] at h1
  rw [← h1]
  obtain ⟨b, o, s⟩ := a
  have hs' : s = none := hs
  subst hs'
  rw [Addr.add_lit, Addr.add_lit]

theorem open_msgs (h : DataW.trod enc Trym.prog w 0 (fun _ => true) true fuel 32 cs = some x) : ∃ (v : Value) (n : Nat) (ms : Nat → Msg) (vs : Nat → Value), cs = [v] ∧ SrcRB w v n ms vs ∧ ∀ i, i < n → (ms i).d.length = 32 := by
  have c75 : Trym.prog.cellsOf 75 = 36 := by kernel_rfl
  rcases Go.Deep.open_slice Trym.underlying32 h with ⟨rfl, _⟩ | ⟨a, len, cap, m, n, D, Pl, rfl, _, hl, _, hm, _, hx⟩
  · exact ⟨_, 0, fun _ => ⟨0, 0, 0, [], []⟩, fun _ => .bool false, rfl, .inl ⟨rfl, rfl⟩, fun i hi => absurd hi (Nat.not_lt_zero _)⟩
  · rw [c75] at hx
    have hm' : m = cap := by simpa using hm
    have hs : 0 < len → a.spot = none := fun h0 => by
      obtain ⟨cs', h1, _⟩ := hx 0 (by omega)
      exact spot_of_cells (by omega) h1
    have hy : ∀ i, i < len → ∃ y : Msg × Value, w.rangeAt a.block (a.off + i * 36) (y.1.cells y.2) ∧ Reads w y.2 y.1.p ∧ y.1.d.length = 32 := fun i hi => by
      obtain ⟨cs', h1, h2⟩ := hx i (by omega)
      obtain ⟨mm, v, rfl, hr, hd⟩ := open_rb h2
      exact ⟨(mm, v), range_of_cells (hs (by omega)) h1, hr, hd⟩
    haveI : Inhabited (Msg × Value) := ⟨(⟨0, 0, 0, [], []⟩, .bool false)⟩
    obtain ⟨f, hf⟩ := Go.Deep.choose_lt hy
    exact ⟨_, len, fun i => (f i).1, fun i => (f i).2, rfl, .inr ⟨a, cap, rfl, hs, fun i hi => ⟨(hf i hi).1, (hf i hi).2.1⟩⟩, fun i hi => (hf i hi).2.2⟩

theorem open_outs (h : DataW.trod enc Trym.prog w 0 (fun _ => true) true fuel 31 cs = some x) :
    ∃ (v : Value) (n : Nat) (ko : Nat → Int) (ms : Nat → Msg) (vs : Nat → Value), cs = [v] ∧ SrcOut w v n ko ms vs ∧ ∀ i, i < n → (ms i).d.length = 32 := by
  have c77 : Trym.prog.cellsOf 77 = 37 := by kernel_rfl
  rcases Go.Deep.open_slice Trym.underlying31 h with ⟨rfl, _⟩ | ⟨a, len, cap, m, n, D, Pl, rfl, _, hl, _, hm, _, hx⟩
  · exact ⟨_, 0, fun _ => 0, fun _ => ⟨0, 0, 0, [], []⟩, fun _ => .bool false, rfl, .inl ⟨rfl, rfl⟩, fun i hi => absurd hi (Nat.not_lt_zero _)⟩
  · rw [c77] at hx
    have hm' : m = cap := by simpa using hm
    have hs : 0 < len → a.spot = none := fun h0 => by
      obtain ⟨cs', h1, _⟩ := hx 0 (by omega)
      exact spot_of_cells (by omega) h1
    have hy : ∀ i, i < len → ∃ y : Int × Msg × Value, w.rangeAt a.block (a.off + i * 37) (.int .u8 y.1 :: y.2.1.cells y.2.2) ∧ Reads w y.2.2 y.2.1.p ∧ y.2.1.d.length = 32 := fun i hi => by
      obtain ⟨cs', h1, h2⟩ := hx i (by omega)
      obtain ⟨k, mm, v, rfl, hr, hd⟩ := open_out1 h2
      exact ⟨(k, mm, v), range_of_cells (hs (by omega)) h1, hr, hd⟩
    haveI : Inhabited (Int × Msg × Value) := ⟨(0, ⟨0, 0, 0, [], []⟩, .bool false)⟩
    obtain ⟨f, hf⟩ := Go.Deep.choose_lt hy
    exact ⟨_, len, fun i => (f i).1, fun i => (f i).2.1, fun i => (f i).2.2, rfl, .inr ⟨a, cap, rfl, hs, fun i hi => ⟨(hf i hi).1, (hf i hi).2.1⟩⟩, fun i hi => (hf i hi).2.2⟩

theorem open_owed (h : DataW.trod enc Trym.prog w 0 (fun _ => true) true fuel 30 cs = some x) :
    cs = [.slice none 0 0] ∨ ∃ (a : Addr) (len cap : Nat) (zs : List Bool), cs = [.slice (some a) len cap] ∧ zs.length = len ∧ ∀ j, j < zs.length → w.cell? (a.add j) = some (.bool (zs.getD j false)) := by
  rcases Go.Deep.open_slice1 Trym.underlying30 (by kernel_rfl) h with ⟨rfl, _⟩ | ⟨a, len, cap, m, n, V, D, Pl, rfl, _, hl, _, hm, _, hx⟩
  · exact .inl rfl
  · have hm' : m = cap := by simpa using hm
    have hy : ∀ i, i < len → ∃ b : Bool, w.cell? (a.add i) = some (.bool b) := fun i hi => by
      obtain ⟨h1, h2⟩ := hx i (by omega)
      obtain ⟨b, hb, _⟩ := DataW.trod_bool Trym.underlying4 h2
      simp only [List.cons.injEq, and_true] at hb
      exact ⟨b, by rw [h1, hb]⟩
    obtain ⟨f, hf⟩ := Go.Deep.choose_lt hy
    refine .inr ⟨a, len, cap, (List.range len).map f, rfl, by simp, fun j hj => ?_⟩
    have hj' : j < len := by simpa using hj
    rw [hf j hj']
    simp [List.getD, hj']
end
end Go.Proofs.Qxb6615968aMods.Cut
