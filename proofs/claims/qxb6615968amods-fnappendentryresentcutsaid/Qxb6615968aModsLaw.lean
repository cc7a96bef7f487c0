/-
  The law itself (5).
-/
import Derived.Test.Qxb6615968aModsState
namespace Go.Proofs.Qxb6615968aMods.Cut
open Go Go.RowKit

/-- appendEntryResent, over the bundles. -/
theorem append_abs {n B Le no nm : Nat} {ew : Bool} {ms : Nat → Msg} {be ba : Nat} {w : World} {v : Value} {cell : Nat → Value → List Value} {pl : Nat → List Int} {xs : List Value} {ps : Nat → Value} {to : Int}
    (he : Entry n Le ew nm ms be w) (habs : ABs B w v no cell pl xs ps) (hB : B ≤ w.heap.size) (hBL : B ≤ Le) (hba : ba < B) (ha : w.cell? ⟨ba, 0, none⟩ = some (.int .i64 n)) (hn : n ≤ 65536) (h1 : 1 ≤ to) (h2 : to ≤ n) (hlen : no + nm ≤ 100000)
    (hok : ∀ i, i < nm → (ms i).ok) :
    Calls Trym.prog 19 #[.pointer (some ⟨ba, 0, none⟩), v, .int .i64 to, .pointer (some ⟨be, 0, none⟩)] w fun e w' => ∃ v' xs' ps', e = .returned v' ∧
      ABs B w' v' (no + nm) (fun i v => if i < no then cell i v else abCells 9 ((ms (i - no)).cells v) to 1) (fun i => if i < no then pl i else (ms (i - no)).p) xs' ps' ∧ Below B w w' ∧
      ∀ (L nm' : Nat) (ms' : Nat → Msg) (be' : Nat), be < L → Entry n L ew nm' ms' be' w → Entry n L ew nm' ms' be' w' := by
  obtain ⟨vm, vo, bo, vs, hb, g1, g2, ho, hm⟩ := he.ex
  refine (append_any ba be bo n B no nm Le vm v xs ms vs to (.slice none 0 0) vo ew w hn h1 h2 hlen hB ha hba (by omega) (by omega) hb ho hok hm habs.1).mono ?_
  rintro e w' ⟨v', rfl, hown, hbel, hk⟩
  obtain ⟨ps', hp'⟩ := abs_append habs hok hm.pay (keep5_of hb ho hk) hown
  exact ⟨v', _, ps', rfl, hp', hbel, fun L nm' ms' be' hL hE => hE.later (B := 0) hL g2 hk hb ho (Nat.zero_le _)⟩

def kd (n1 : Nat) (ko : Nat → Int) (i : Nat) : Int := if i < n1 then ko i else 9
def mg (n1 : Nat) (mo mm : Nat → Msg) (i : Nat) : Msg := if i < n1 then mo i else mm (i - n1)
def tg (n1 : Nat) (to : Int) (i : Nat) : Int := if i < n1 then 0 else to
def rg (n1 : Nat) (i : Nat) : Int := if i < n1 then 0 else 1
/-- Message i of the resent list. -/
def cellC (n1 : Nat) (ko : Nat → Int) (mo mm : Nat → Msg) (to : Int) (i : Nat) (v : Value) : List Value := abCells (kd n1 ko i) ((mg n1 mo mm i).cells v) (tg n1 to i) (rg n1 i)

theorem ABs.canon {B N N' : Nat} {w : World} {v : Value} {cell cell' : Nat → Value → List Value} {pl pl' : Nat → List Int} {xs : List Value} {ps : Nat → Value} (h : ABs B w v N cell pl xs ps) (hN : N = N') (hc : ∀ i, i < N → ∀ v, cell i v = cell' i v)
    (hp : ∀ i, i < N → pl i = pl' i) : ABs B w v N' cell' pl' xs ps := by
  subst hN
  exact ⟨h.1, fun i hi j u hj => h.2.1 i hi j u (by rw [hc i hi]; exact hj), fun i hi => by rw [← hp i hi]; exact h.2.2 i hi⟩
theorem canon_cell {n1 : Nat} (ko : Nat → Int) (mo mm : Nat → Msg) (to : Int) (i : Nat) (v : Value) : (if i < n1 then elAB ko mo i v else abCells 9 ((mm (i - n1)).cells v) to 1) = cellC n1 ko mo mm to i v := by
  unfold cellC kd mg tg rg elAB
  by_cases h : i < n1 <;> simp [h]
theorem canon_pl {n1 : Nat} (mo mm : Nat → Msg) (i : Nat) : (if i < n1 then (mo i).p else (mm (i - n1)).p) = (mg n1 mo mm i).p := by
  unfold mg
  by_cases h : i < n1 <;> simp [h]
theorem canon_cell2 {n1 k : Nat} (ko : Nat → Int) (mo mm : Nat → Msg) (to : Int) (i : Nat) (v : Value) :
    (if i < n1 + k then (if i < n1 then elAB ko mo i v else abCells 9 ((mm (i - n1)).cells v) to 1) else abCells 9 ((mm (k + (i - (n1 + k)))).cells v) to 1) = cellC n1 ko mo mm to i v := by
  rw [← canon_cell]
  by_cases h : i < n1 + k
  · simp [h]
  · have h1 : ¬ i < n1 := by omega
    simp [h, h1, show k + (i - (n1 + k)) = i - n1 by omega]
theorem canon_pl2 {n1 k : Nat} (mo mm : Nat → Msg) (i : Nat) : (if i < n1 + k then (if i < n1 then (mo i).p else (mm (i - n1)).p) else (mm (k + (i - (n1 + k)))).p) = (mg n1 mo mm i).p := by
  rw [← canon_pl]
  by_cases h : i < n1 + k
  · simp [h]
  · have h1 : ¬ i < n1 := by omega
    simp [h, h1, show k + (i - (n1 + k)) = i - n1 by omega]
theorem ABs.slice {B N : Nat} {w : World} {v : Value} {cell : Nat → Value → List Value} {pl : Nat → List Int} {xs : List Value} {ps : Nat → Value} (h : ABs B w v N cell pl xs ps) : ∃ ao c, v = .slice ao N c := by
  rcases h.1.2 with ⟨rfl, rfl⟩ | ⟨g, cap, cur, rfl, _⟩
  · exact ⟨_, _, rfl⟩
  · exact ⟨_, _, rfl⟩
theorem ABs.at {B N i c : Nat} {ao : Option Addr} {w : World} {cell : Nat → Value → List Value} {pl : Nat → List Int} {xs : List Value} {ps : Nat → Value} (h : ABs B w (.slice ao N c) N cell pl xs ps) (hi : i < N) :
    ∃ g, ao = some ⟨g, 0, none⟩ ∧ w.rangeAt g (i * 99) (cell i (ps i)) := by
  rcases h.1.2 with ⟨_, e⟩ | ⟨g, cap, cur, hv, _, hg, _, _, _, ht⟩
  · omega
  · simp only [Value.slice.injEq] at hv
    refine ⟨g, hv.1, fun j u hj => ?_⟩
    have h1 := h.2.1 i hi j u hj
    rw [← ht, List.getElem?_take] at h1
    split at h1
    · rw [cell_of_row _ _ _ _ _ _ hg]; simpa using h1
    · cases h1
theorem OwnG.slice {t sz n : Nat} {el : Nat → Value → List Value} {pl : Nat → List Int} {B : Nat} {w : World} {v : Value} {vs : Nat → Value} (h : OwnG t sz el pl B w v n vs) : ∃ ao c, v = .slice ao n c := by
  rcases h with ⟨rfl, rfl⟩ | ⟨b, rfl, _⟩
  · exact ⟨_, _, rfl⟩
  · exact ⟨_, _, rfl⟩
theorem OwnRB.slice {t : TypeId} {B n : Nat} {w : World} {v : Value} {ms : Nat → Msg} {vs : Nat → Value} (h : OwnRB t B w v n ms vs) : ∃ ao c, v = .slice ao n c := by
  rcases h with ⟨rfl, rfl⟩ | ⟨b, rfl, _⟩
  · exact ⟨_, _, rfl⟩
  · exact ⟨_, _, rfl⟩
theorem OwnG.at {t sz n i c : Nat} {ao : Option Addr} {el : Nat → Value → List Value} {pl : Nat → List Int} {B : Nat} {w : World} {vs : Nat → Value} (h : OwnG t sz el pl B w (.slice ao n c) n vs) (hi : i < n) :
    ∃ g, ao = some ⟨g, 0, none⟩ ∧ w.rangeAt g (i * sz) (el i (vs i)) ∧ PayAt w (vs i) (pl i) := by
  rcases h with ⟨_, e⟩ | ⟨b, hv, _, hr, hp⟩
  · omega
  · simp only [Value.slice.injEq] at hv
    exact ⟨b, hv.1, hr.rng i hi, hp i hi⟩
theorem OwnRB.at {t n i c : Nat} {ao : Option Addr} {B : Nat} {w : World} {ms : Nat → Msg} {vs : Nat → Value} (h : OwnRB t B w (.slice ao n c) n ms vs) (hi : i < n) :
    ∃ g, ao = some ⟨g, 0, none⟩ ∧ w.rangeAt g (i * 36) ((ms i).cells (vs i)) ∧ PayAt w (vs i) (ms i).p := by
  rcases h with ⟨_, e⟩ | ⟨b, hv, _, hr, hp⟩
  · omega
  · simp only [Value.slice.injEq] at hv
    exact ⟨b, hv.1, hr.rng i hi, hp i hi⟩

theorem SrcRB.up {w w' : World} {v : Value} {n : Nat} {ms : Nat → Msg} {vs : Nat → Value} (h : SrcRB w v n ms vs) (k : Below w.heap.size w w') : SrcRB w' v n ms vs := by
  rcases h with h | ⟨a, cap, hv, hs, hc⟩
  · exact .inl h
  · exact .inr ⟨a, cap, hv, hs, fun i hi => ⟨range_below k (msg_range_lt (hc i hi).1) (hc i hi).1, (hc i hi).2.up k⟩⟩
theorem SrcOut.up {w w' : World} {v : Value} {n : Nat} {ko : Nat → Int} {ms : Nat → Msg} {vs : Nat → Value} (h : SrcOut w v n ko ms vs) (k : Below w.heap.size w w') : SrcOut w' v n ko ms vs := by
  rcases h with h | ⟨a, cap, hv, hs, hc⟩
  · exact .inl h
  · exact .inr ⟨a, cap, hv, hs, fun i hi => ⟨range_below k (range_lt (hc i hi).1) (hc i hi).1, (hc i hi).2.up k⟩⟩
theorem arch_any (n : Int) (w : World) : Calls Trym.prog 16 #[.int .i64 n] w fun e w' => e = .returned (.pointer (some ⟨w.heap.size, 0, none⟩)) ∧ w'.cell? ⟨w.heap.size, 0, none⟩ = some (.int .i64 n) ∧ Below w.heap.size w w' ∧ w.heap.size < w'.heap.size :=
  (archive_any n w).mono fun e w' ⟨he, C, hw, hC⟩ => by
    subst hw
    exact ⟨he, by rw [cell_of_row _ _ _ _ _ _ (heap_alloc_new w (.cells C 95))]; exact hC, (Below.refl _ _).alloc (Nat.le_refl _) _, by simp⟩
theorem ent_any {n B nm : Nat} {ew : Bool} {ms : Nat → Msg} {vs : Nat → Value} {vm vo : Value} {w : World} (hm : OwnRB 54 B w vm nm ms vs) (ho : OwB n B w vo) (hB : B ≤ w.heap.size) :
    Calls Trym.prog 17 #[vm, .slice none 0 0, .bool ew, vo] w fun e w' => e = .returned (.pointer (some ⟨w.heap.size, 0, none⟩)) ∧ Entry n B ew nm ms w.heap.size w' ∧ Below w.heap.size w w' ∧ w.heap.size < w'.heap.size := by
  obtain ⟨ao, c, hv⟩ := hm.slice
  obtain ⟨ao', l', c', hv'⟩ := ho.slice
  refine (entry_any vm vo ao nm c ao' l' c' ew hv hv' w).mono ?_
  rintro e w' ⟨he, hw⟩
  subst hw
  exact ⟨he, entry_new hm ho hB, (Below.refl _ _).alloc (Nat.le_refl _) _, by simp⟩

/-- What is known where the lists are compared. -/
structure Fin (w0 : World) (n1 n2 : Nat) (ko : Nat → Int) (mo mm : Nat → Msg) (to : Int) (u1 u2 vg vt : Value) (Bg Bt : Nat) (xg xt : List Value) (pg pt qo qm : Nat → Value) (w : World) : Prop where
  out : OwnG 77 37 (elOut ko mo) (fun i => (mo i).p) 0 w u1 n1 qo
  msg : OwnRB 75 0 w u2 n2 mm qm
  got : ABs Bg w vg (n1 + n2) (cellC n1 ko mo mm to) (fun i => (mg n1 mo mm i).p) xg pg
  two : ABs Bt w vt (n1 + n2) (cellC n1 ko mo mm to) (fun i => (mg n1 mo mm i).p) xt pt
  old : Below w0.heap.size w0 w
section
variable {w0 : World} {n1 n2 : Nat} {ko : Nat → Int} {mo mm : Nat → Msg} {to : Int} {u1 u2 vg vt : Value} {Bg Bt : Nat} {xg xt : List Value} {pg pt qo qm : Nat → Value} {w w' : World}
theorem Fin.up (h : Fin w0 n1 n2 ko mo mm to u1 u2 vg vt Bg Bt xg xt pg pt qo qm w) (k : Below w.heap.size w w') : Fin w0 n1 n2 ko mo mm to u1 u2 vg vt Bg Bt xg xt pg pt qo qm w' :=
  ⟨h.out.up k, h.msg.up k, h.got.up k, h.two.up k, below_up h.old k⟩
theorem Fin.drew (h : Fin w0 n1 n2 ko mo mm to u1 u2 vg vt Bg Bt xg xt pg pt qo qm w) : Fin w0 n1 n2 ko mo mm to u1 u2 vg vt Bg Bt xg xt pg pt qo qm w.drew :=
  h.up (Below.refl _ _).drew
end
/-- .. with the variable g beside it. -/
structure FinG (w0 : World) (n1 n2 : Nat) (ko : Nat → Int) (mo mm : Nat → Msg) (to : Int) (u1 u2 vg vt : Value) (Bg Bt : Nat) (xg xt : List Value) (pg pt qo qm : Nat → Value) (b : Nat) (R : List Value) (w : World) : Prop where
  fin : Fin w0 n1 n2 ko mo mm to u1 u2 vg vt Bg Bt xg xt pg pt qo qm w
  blk : w.heap[b]? = some (.cells (abCells 9 R to 1).toArray 73 (0, 0))
section
variable {w0 : World} {n1 n2 : Nat} {ko : Nat → Int} {mo mm : Nat → Msg} {to : Int} {u1 u2 vg vt : Value} {Bg Bt : Nat} {xg xt : List Value} {pg pt qo qm : Nat → Value} {b : Nat} {R : List Value} {w w' : World}
theorem FinG.up (h : FinG w0 n1 n2 ko mo mm to u1 u2 vg vt Bg Bt xg xt pg pt qo qm b R w) (k : Below w.heap.size w w') : FinG w0 n1 n2 ko mo mm to u1 u2 vg vt Bg Bt xg xt pg pt qo qm b R w' :=
  ⟨h.fin.up k, blk_keep k h.blk⟩
theorem FinG.c0 (h : FinG w0 n1 n2 ko mo mm to u1 u2 vg vt Bg Bt xg xt pg pt qo qm b R w) (hR : R.length = 36) : w.cell? ⟨b, 0, none⟩ = some (.int .u8 9) := by
  rw [cell_of_row _ _ _ _ _ _ h.blk]; exact (ab_is 9 to 1 hR).c0
theorem FinG.c97 (h : FinG w0 n1 n2 ko mo mm to u1 u2 vg vt Bg Bt xg xt pg pt qo qm b R w) (hR : R.length = 36) : w.cell? ⟨b, 97, none⟩ = some (.int .i64 to) := by
  rw [cell_of_row _ _ _ _ _ _ h.blk]; exact (ab_is 9 to 1 hR).c97
theorem FinG.c98 (h : FinG w0 n1 n2 ko mo mm to u1 u2 vg vt Bg Bt xg xt pg pt qo qm b R w) (hR : R.length = 36) : w.cell? ⟨b, 98, none⟩ = some (.int .u8 1) := by
  rw [cell_of_row _ _ _ _ _ _ h.blk]; exact (ab_is 9 to 1 hR).c98
theorem FinG.rb (h : FinG w0 n1 n2 ko mo mm to u1 u2 vg vt Bg Bt xg xt pg pt qo qm b R w) (hR : R.length = 36) : w.rangeAt b 1 R := fun j u hj => by
  rw [cell_of_row _ _ _ _ _ _ h.blk]; exact (ab_is 9 to 1 hR).rb j u hj
end
theorem mg_ok {n1 n2 i : Nat} {mo mm : Nat → Msg} (h1 : ∀ i, i < n1 → (mo i).ok) (h2 : ∀ i, i < n2 → (mm i).ok) (hi : i < n1 + n2) : (mg n1 mo mm i).ok := by
  unfold mg
  by_cases h : i < n1
  · simpa [h] using h1 i h
  · simpa [h] using h2 (i - n1) (by omega)
theorem cellC_len {n1 n2 i : Nat} {ko : Nat → Int} {mo mm : Nat → Msg} {to : Int} (h1 : ∀ i, i < n1 → (mo i).ok) (h2 : ∀ i, i < n2 → (mm i).ok) (hi : i < n1 + n2) (v : Value) : (cellC n1 ko mo mm to i v).length = 99 :=
  ab_len _ _ _ (Msg.len (mg_ok h1 h2 hi) v)
theorem sameC_any (n1 : Nat) (ko : Nat → Int) (mo mm : Nat → Msg) (to : Int) (i : Nat) (v v' : Value) (w : World) (hm : (mg n1 mo mm i).ok) (hv : PayAt w v (mg n1 mo mm i).p) (hv' : PayAt w v' (mg n1 mo mm i).p) :
    Calls Trym.prog 21 #[.agg (cellC n1 ko mo mm to i v).toArray, .agg (cellC n1 ko mo mm to i v').toArray] w fun e w' => e = .returned (.bool true) ∧ Below w.heap.size w w' :=
  sameAB_any (kd n1 ko i) (tg n1 to i) (rg n1 i) (mg n1 mo mm i) v v' w hm hv hv'
theorem cellC_lt {n1 i : Nat} {ko : Nat → Int} {mo mm : Nat → Msg} {to : Int} (h : i < n1) (v : Value) : cellC n1 ko mo mm to i v = abCells (ko i) ((mo i).cells v) 0 0 := by
  simp [cellC, kd, mg, tg, rg, h]
theorem cellC_ge {n1 k : Nat} {ko : Nat → Int} {mo mm : Nat → Msg} {to : Int} (v : Value) : cellC n1 ko mo mm to (n1 + k) v = abCells 9 ((mm k).cells v) to 1 := by
  have h : ¬ n1 + k < n1 := by omega
  simp [cellC, kd, mg, tg, rg, h]
theorem mg_ge {n1 k : Nat} {mo mm : Nat → Msg} : mg n1 mo mm (n1 + k) = mm k := by
  have h : ¬ n1 + k < n1 := by omega
  simp [mg, h]
theorem range_left {w : World} {b o : Nat} {A X : List Value} (h : w.rangeAt b o (A ++ X)) : w.rangeAt b o A := fun j v hv => by
  refine h j v ?_
  rw [List.getElem?_append_left (List.getElem?_eq_some_iff.1 hv).1]; exact hv

theorem blk_old {w w' : World} {B b : Nat} {o : Obj} (h : Below B w w') (hb : w.heap[b]? = some o) (hlt : b < B) : w'.heap[b]? = some o := by
  rw [h.block b hlt]; exact hb
end Go.Proofs.Qxb6615968aMods.Cut
