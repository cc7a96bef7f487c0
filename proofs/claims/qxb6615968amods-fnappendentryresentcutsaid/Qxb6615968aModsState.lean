/-
  What is known between the calls of the law: bundles of facts on a world, and how each goes on. No Go text is walked here.
-/
import Derived.Test.Qxb6615968aModsSameAB
import Derived.Test.Qxb6615968aModsFits
namespace Go.Proofs.Qxb6615968aMods.Cut
open Go Go.RowKit

/-! ### The bools -/
/-- A '[]bool' that is nil, or of n bools. -/
def SrcB (n : Nat) (w : World) (v : Value) : Prop :=
  v = .slice none 0 0 ∨ ∃ (a : Addr) (cap : Nat) (zs : List Bool), v = .slice (some a) n cap ∧ zs.length = n ∧ ∀ j, j < zs.length → w.cell? (a.add j) = some (.bool (zs.getD j false))
/-- .. in a row of its own, from block B on. -/
def OwB (n B : Nat) (w : World) (v : Value) : Prop :=
  v = .slice none 0 0 ∨ ∃ (b : Nat) (zs : List Bool), v = .slice (some ⟨b, 0, none⟩) n n ∧ B ≤ b ∧ zs.length = n ∧ w.heap[b]? = some (.cells (zs.map Value.bool).toArray 4 (0, 0))
theorem OwB.up {n B : Nat} {w w' : World} {v : Value} (h : OwB n B w v) (k : Below w.heap.size w w') : OwB n B w' v := by
  rcases h with h | ⟨b, zs, hv, hB, hl, hb⟩
  · exact .inl h
  · exact .inr ⟨b, zs, hv, hB, hl, blk_keep k hb⟩
theorem OwB.src {n B : Nat} {w : World} {v : Value} (h : OwB n B w v) : SrcB n w v := by
  rcases h with h | ⟨b, zs, hv, _, hl, hb⟩
  · exact .inl h
  · refine .inr ⟨⟨b, 0, none⟩, n, zs, hv, hl, fun j hj => ?_⟩
    rw [Addr.add_lit, Nat.zero_add, cell_of_row _ _ _ _ _ _ hb]
    simp [hj]
theorem OwB.slice {n B : Nat} {w : World} {v : Value} (h : OwB n B w v) : ∃ ao l c, v = .slice ao l c := by
  rcases h with rfl | ⟨b, zs, rfl, _⟩
  · exact ⟨_, _, _, rfl⟩
  · exact ⟨_, _, _, rfl⟩
theorem cloneB_any (n : Nat) (v : Value) (w : World) (hn : n ≤ 65536) (h : SrcB n w v) :
    Calls Trym.prog 13 #[v] w fun e w' => ∃ v', e = .returned v' ∧ OwB n w.heap.size w' v' ∧ Below w.heap.size w w' := by
  rcases h with rfl | ⟨a, cap, zs, rfl, rfl, hc⟩
  · exact (cloneBools_nil w).mono fun e w' ⟨he, hw⟩ => ⟨_, he, .inl rfl, hw ▸ Below.refl _ _⟩
  · exact (cloneBools_some a cap zs w (by omega) hc).mono fun e w' ⟨he, hw, hb⟩ => ⟨_, he, .inr ⟨_, zs, rfl, Nat.le_refl _, rfl, hw⟩, hb⟩

/-! ### The clones and the archive -/
structure Clones (n n1 n2 : Nat) (ko : Nat → Int) (mo mm : Nat → Msg) (v0 v1 v2 : Value) (ba : Nat) (w : World) : Prop where
  ow : OwB n 0 w v0
  out : ∃ vs, OwnG 77 37 (elOut ko mo) (fun i => (mo i).p) 0 w v1 n1 vs
  msg : ∃ vs, OwnRB 75 0 w v2 n2 mm vs
  arch : w.cell? ⟨ba, 0, none⟩ = some (.int .i64 n)
theorem Clones.up {n n1 n2 : Nat} {ko : Nat → Int} {mo mm : Nat → Msg} {v0 v1 v2 : Value} {ba : Nat} {w w' : World} (h : Clones n n1 n2 ko mo mm v0 v1 v2 ba w) (k : Below w.heap.size w w') : Clones n n1 n2 ko mo mm v0 v1 v2 ba w' := by
  obtain ⟨vs, hvs⟩ := h.out
  obtain ⟨us, hus⟩ := h.msg
  exact ⟨h.ow.up k, ⟨vs, hvs.up k⟩, ⟨us, hus.up k⟩, by rw [k.cell (World.block_lt_of_cell? _ _ h.arch)]; exact h.arch⟩

theorem OwnRB.low {t : TypeId} {B n : Nat} {w : World} {v : Value} {ms : Nat → Msg} {vs : Nat → Value} (h : OwnRB t B w v n ms vs) (B' : Nat) (hb : B' ≤ B) : OwnRB t B' w v n ms vs := by
  rcases h with h | ⟨b, hv, hB, r⟩
  · exact .inl h
  · exact .inr ⟨b, hv, Nat.le_trans hb hB, r⟩
theorem OwnG.low {t sz n : Nat} {el : Nat → Value → List Value} {pl : Nat → List Int} {B : Nat} {w : World} {v : Value} {vs : Nat → Value} (h : OwnG t sz el pl B w v n vs) (B' : Nat) (hb : B' ≤ B) : OwnG t sz el pl B' w v n vs := by
  rcases h with h | ⟨b, hv, hB, r⟩
  · exact .inl h
  · exact .inr ⟨b, hv, Nat.le_trans hb hB, r⟩
theorem OwB.low {n B : Nat} {w : World} {v : Value} (h : OwB n B w v) (B' : Nat) (hb : B' ≤ B) : OwB n B' w v := by
  rcases h with h | ⟨b, zs, hv, hB, r⟩
  · exact .inl h
  · exact .inr ⟨b, zs, hv, Nat.le_trans hb hB, r⟩

/-! ### A cut of the messages -/
theorem slice_to {B n k : Nat} {w : World} {v : Value} {ms : Nat → Msg} {vs : Nat → Value} (h : OwnRB 75 B w v n ms vs) (hk : k ≤ n) :
    ∃ s, (∀ w, (Instr.slice 32 v none (some (.int .i64 (k : Int))) none).run Trym.prog w = .ok s w) ∧ SrcRB w s k ms vs := by
  have hsz : ∀ w, (sizeOf (Trym.prog.elem 32)).run Trym.prog w = .ok 36 w := fun w => by kernel_rfl
  have ht : Trym.prog.underlying 32 = some (.slice (Trym.prog.elem 32)) := by kernel_rfl
  rcases h with ⟨rfl, rfl⟩ | ⟨b, rfl, _, hr, hp⟩
  · obtain rfl : k = 0 := by omega
    refine ⟨.slice none 0 0, fun w => ?_, .inl ⟨rfl, rfl⟩⟩
    rw [run_slice_h w 32 none 0 0 ht .i64 _ (by omega) (by simp), hsz]
    simp [sliced]
  · refine ⟨.slice (some ⟨b, 0, none⟩) k n, fun w => ?_, .inr ⟨⟨b, 0, none⟩, n, rfl, fun _ => rfl, fun i hi => ⟨?_, (hp i (by omega)).reads⟩⟩⟩
    · rw [run_slice_h w 32 (some ⟨b, 0, none⟩) n n ht .i64 _ (by omega) (by omega), hsz]
      simp [sliced, Addr.add_lit]
    · simpa using hr.rng i (by omega)
theorem slice_from {B n k : Nat} {w : World} {v : Value} {ms : Nat → Msg} {vs : Nat → Value} (h : OwnRB 75 B w v n ms vs) (hk : k ≤ n) :
    ∃ s, (∀ w, (Instr.slice 32 v (some (.int .i64 (k : Int))) none none).run Trym.prog w = .ok s w) ∧ SrcRB w s (n - k) (fun i => ms (k + i)) (fun i => vs (k + i)) := by
  have hsz : ∀ w, (sizeOf (Trym.prog.elem 32)).run Trym.prog w = .ok 36 w := fun w => by kernel_rfl
  have ht : Trym.prog.underlying 32 = some (.slice (Trym.prog.elem 32)) := by kernel_rfl
  rcases h with ⟨rfl, rfl⟩ | ⟨b, rfl, _, hr, hp⟩
  · obtain rfl : k = 0 := by omega
    refine ⟨.slice none 0 0, fun w => ?_, .inl ⟨rfl, rfl⟩⟩
    rw [run_slice_l w 32 none 0 0 ht .i64 _ (by omega) (by simp), hsz]
    simp [sliced]
  · by_cases e : n = k
    · subst e
      refine ⟨.slice (some ⟨b, 0, none⟩) 0 0, fun w => ?_, .inr ⟨⟨b, 0, none⟩, 0, by simp, fun _ => rfl, fun i hi => by omega⟩⟩
      rw [run_slice_l w 32 (some ⟨b, 0, none⟩) n n ht .i64 _ (by omega) (by omega), hsz]
      simp [sliced]
    · refine ⟨.slice (some ⟨b, k * 36, none⟩) (n - k) (n - k), fun w => ?_, .inr ⟨⟨b, k * 36, none⟩, n - k, rfl, fun _ => rfl, fun i hi => ⟨?_, (hp (k + i) (by omega)).reads⟩⟩⟩
      · rw [run_slice_l w 32 (some ⟨b, 0, none⟩) n n ht .i64 _ (by omega) (by omega), hsz]
        simp [sliced, e, Addr.add_lit]
      · have := hr.rng (k + i) (by omega)
        rwa [Nat.add_mul] at this

/-! ### A sent entry -/
structure Entry (n B : Nat) (ew : Bool) (nm : Nat) (ms : Nat → Msg) (be : Nat) (w : World) : Prop where
  ex : ∃ (vm vo : Value) (bo : Nat) (vs : Nat → Value), w.heap[be]? = some (.cells #[vm, .slice none 0 0, .bool ew, vo] 97 (0, 0)) ∧ B ≤ bo ∧ bo ≤ be ∧ Owed w vo n be bo ∧ OwnRB 54 B w vm nm ms vs
theorem Owed.keep {w w' : World} {vo : Value} {n be bo : Nat} (h : Owed w vo n be bo) (k : Below w.heap.size w w') : Owed w' vo n be bo := by
  rcases h with h | ⟨hv, C, hC, hs⟩
  · exact .inl h
  · exact .inr ⟨hv, C, blk_keep k hC, hs⟩
theorem Entry.up {n B : Nat} {ew : Bool} {nm : Nat} {ms : Nat → Msg} {be : Nat} {w w' : World} (h : Entry n B ew nm ms be w) (k : Below w.heap.size w w') : Entry n B ew nm ms be w' := by
  obtain ⟨vm, vo, bo, vs, hb, h1, h2, ho, hm⟩ := h.ex
  exact ⟨vm, vo, bo, vs, blk_keep k hb, h1, h2, ho.keep k, hm.up k⟩
theorem entry_new {n B nm : Nat} {ew : Bool} {ms : Nat → Msg} {vs : Nat → Value} {vm vo : Value} {w : World} (hm : OwnRB 54 B w vm nm ms vs) (ho : OwB n B w vo) (hB : B ≤ w.heap.size) :
    Entry n B ew nm ms w.heap.size (w.alloc (.cells #[vm, .slice none 0 0, .bool ew, vo] 97)) := by
  have hbel : Below w.heap.size w (w.alloc (.cells #[vm, .slice none 0 0, .bool ew, vo] 97)) := (Below.refl _ _).alloc (Nat.le_refl _) _
  rcases ho with hv | ⟨b, zs, hv, hb, hl, hC⟩
  · exact ⟨vm, vo, w.heap.size, vs, heap_alloc_new _ _, hB, Nat.le_refl _, .inl ⟨hv, rfl⟩, hm.up hbel⟩
  · exact ⟨vm, vo, b, vs, heap_alloc_new _ _, hb, Nat.le_of_lt (lt_of_blk hC), .inr ⟨hv, _, blk_keep hbel hC, by simpa using hl⟩, hm.up hbel⟩

/-- What a call of appendEntryResent keeps. -/
def Keeps (be bo : Nat) (w w' : World) : Prop :=
  ∀ (b : Nat) (C : Array Value) (t : TypeId), t ≠ 73 → b ≠ be → b ≠ bo → w.heap[b]? = some (.cells C t (0, 0)) → w'.heap[b]? = some (.cells C t (0, 0))
theorem keep5_of {be bo n : Nat} {w w' : World} {vo : Value} {Ce : Array Value} (hb : w.heap[be]? = some (.cells Ce 97 (0, 0))) (ho : Owed w vo n be bo) (k : Keeps be bo w w') : Keep5 w w' := fun b C hC => by
  have n1 : b ≠ be := fun e => by subst e; rw [hC] at hb; simp at hb
  refine k b C 5 (by decide) n1 (fun e => ?_) hC
  rcases ho with ⟨_, e2⟩ | ⟨_, Co, hCo, _⟩
  · exact n1 (e.trans e2)
  · subst e; rw [hC] at hCo; simp at hCo

/-- Another entry, made later, outlasts the call. -/
theorem Entry.later {n B L : Nat} {ew : Bool} {nm : Nat} {ms : Nat → Msg} {be be1 bo1 : Nat} {w w' : World} {vo1 : Value} {C1 : Array Value} (h : Entry n L ew nm ms be w) (hL : be1 < L) (h1 : bo1 ≤ be1) (k : Keeps be1 bo1 w w')
    (hb1 : w.heap[be1]? = some (.cells C1 97 (0, 0))) (ho1 : Owed w vo1 n be1 bo1) (_ : B ≤ L) : Entry n L ew nm ms be w' := by
  obtain ⟨vm, vo, bo, vs, hb, g1, g2, ho, hm⟩ := h.ex
  have k5 := keep5_of hb1 ho1 k
  refine ⟨vm, vo, bo, vs, k _ _ 97 (by decide) (by omega) (by omega) hb, g1, g2, ?_, ?_⟩
  · rcases ho with ho | ⟨hv, C, hC, hs⟩
    · exact .inl ho
    · exact .inr ⟨hv, C, k _ _ 4 (by decide) (by omega) (by omega) hC, hs⟩
  · rcases hm with hm | ⟨b, hv, hB, hr, hp⟩
    · exact .inl hm
    · obtain ⟨C, hC, _⟩ := hr.blk
      refine .inr ⟨b, hv, hB, hr.keep ?_, fun i hi => (hp i hi).keep k5⟩
      rw [k b C 54 (by decide) (by omega) (by omega) hC, hC]

/-! ### Rows of ABMessages -/
def ABs (B : Nat) (w : World) (v : Value) (N : Nat) (cell : Nat → Value → List Value) (pl : Nat → List Int) (xs : List Value) (ps : Nat → Value) : Prop :=
  w.ownsRow B 73 99 v N xs ∧ (∀ i, i < N → ∀ j u, (cell i (ps i))[j]? = some u → xs[i * 99 + j]? = some u) ∧ ∀ i, i < N → PayAt w (ps i) (pl i)

theorem ABs.up {B N : Nat} {w w' : World} {v : Value} {cell : Nat → Value → List Value} {pl : Nat → List Int} {xs : List Value} {ps : Nat → Value} (h : ABs B w v N cell pl xs ps) (k : Below w.heap.size w w') : ABs B w' v N cell pl xs ps :=
  ⟨owns_up h.1 k, h.2.1, fun i hi => (h.2.2 i hi).up k⟩
theorem abs_new {B n : Nat} {w : World} {v : Value} {el : Nat → Value → List Value} {pl : Nat → List Int} {vs : Nat → Value} (h : OwnG 73 99 el pl B w v n vs) (hn : n ≤ 16384) : ∃ xs, ABs B w v n el pl xs vs := by
  rcases h with ⟨rfl, rfl⟩ | ⟨b, rfl, hB, hr, hp⟩
  · exact ⟨[], World.ownsRow_nil _ _ _ _, fun i hi => absurd hi (Nat.not_lt_zero _), fun i hi => absurd hi (Nat.not_lt_zero _)⟩
  · obtain ⟨C, hC, hs⟩ := hr.blk
    refine ⟨C.toList, ⟨by simpa using hs, .inr ⟨b, n, C, rfl, hB, hC, Nat.le_refl _, by unfold maxLen; omega, hs, ?_⟩⟩, fun i hi j u hj => ?_, hp⟩
    · exact List.take_of_length_le (by rw [Array.length_toList, hs]; exact Nat.le_refl _)
    · have := hr.rng i hi j u hj
      rw [cell_of_row _ _ _ _ _ _ hC] at this
      simpa using this

theorem flat_len {ms : Nat → Msg} {vs : Nat → Value} {to : Int} : ∀ (m : Nat), (∀ i, i < m → (ms i).ok) → (flat ms vs to m).length = m * 99
  | 0, _ => by simp [flat]
  | m + 1, h => by
    rw [flat_succ, List.length_append, flat_len m (fun i hi => h i (by omega)), ab_len _ _ _ (Msg.len (h m (by omega)) _)]; omega
theorem flat_get {ms : Nat → Msg} {vs : Nat → Value} {to : Int} : ∀ (m : Nat), (∀ i, i < m → (ms i).ok) → ∀ i, i < m → ∀ j u, (abCells 9 ((ms i).cells (vs i)) to 1)[j]? = some u → (flat ms vs to m)[i * 99 + j]? = some u
  | 0, _, i, hi, _, _, _ => absurd hi (Nat.not_lt_zero _)
  | m + 1, h, i, hi, j, u, hj => by
    have hl := flat_len (vs := vs) (to := to) m (fun i hi => h i (by omega))
    have hjl : j < 99 := by
      have := (List.getElem?_eq_some_iff.1 hj).1
      rwa [ab_len _ _ _ (Msg.len (h i hi) _)] at this
    rw [flat_succ]
    by_cases e : i = m
    · subst e
      rw [List.getElem?_append_right (by omega), hl, show i * 99 + j - i * 99 = j by omega]; exact hj
    · have him : i < m := by omega
      rw [List.getElem?_append_left (by omega)]
      exact flat_get m (fun i hi => h i (by omega)) i him j u hj

theorem abs_append {B n m : Nat} {w w' : World} {v v' : Value} {cell : Nat → Value → List Value} {pl : Nat → List Int} {xs : List Value} {ps : Nat → Value} {ms : Nat → Msg} {vs : Nat → Value} {to : Int} (h : ABs B w v n cell pl xs ps)
    (hok : ∀ i, i < m → (ms i).ok) (hp : ∀ i, i < m → PayAt w (vs i) (ms i).p) (k5 : Keep5 w w') (hown : w'.ownsRow B 73 99 v' (n + m) (xs ++ flat ms vs to m)) :
    ∃ ps', ABs B w' v' (n + m) (fun i v => if i < n then cell i v else abCells 9 ((ms (i - n)).cells v) to 1) (fun i => if i < n then pl i else (ms (i - n)).p) (xs ++ flat ms vs to m) ps' := by
  refine ⟨fun i => if i < n then ps i else vs (i - n), hown, fun i hi j u hj => ?_, fun i hi => ?_⟩
  · have hxl := h.1.1
    by_cases e : i < n
    · simp only [e, if_true] at hj
      have := h.2.1 i e j u hj
      rw [List.getElem?_append_left ((List.getElem?_eq_some_iff.1 this).1)]; exact this
    · simp only [e, if_false] at hj
      have := flat_get (ms := ms) (vs := vs) (to := to) m hok (i - n) (by omega) j u hj
      rw [List.getElem?_append_right (by omega), hxl, show i * 99 + j - n * 99 = (i - n) * 99 + j by omega]; exact this
  · by_cases e : i < n
    · simp only [e, if_true]; exact (h.2.2 i e).keep k5
    · simp only [e, if_false]; exact (hp (i - n) (by omega)).keep k5

theorem OwnRB.pay {t : TypeId} {B n : Nat} {w : World} {v : Value} {ms : Nat → Msg} {vs : Nat → Value} (h : OwnRB t B w v n ms vs) : ∀ i, i < n → PayAt w (vs i) (ms i).p := by
  rcases h with ⟨_, rfl⟩ | ⟨b, _, _, _, hp⟩
  · exact fun i hi => absurd hi (Nat.not_lt_zero _)
  · exact hp
end Go.Proofs.Qxb6615968aMods.Cut
