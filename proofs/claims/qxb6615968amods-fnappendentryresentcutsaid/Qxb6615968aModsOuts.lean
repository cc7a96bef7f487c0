/-
  cloneOuts (14), toOuts (20): rows of Outs and of ABMessages; the round's statement draws its order.
-/
import Derived.Test.Qxb6615968aModsRowsOf
namespace Go.Proofs.Qxb6615968aMods.Cut
open Go Go.RowKit

def elOut (ko : Nat → Int) (ms : Nat → Msg) (i : Nat) (v : Value) : List Value := .int .u8 (ko i) :: (ms i).cells v
def elAB (ko : Nat → Int) (ms : Nat → Msg) (i : Nat) (v : Value) : List Value := abCells (ko i) ((ms i).cells v) 0 0
theorem elOut_len {ko : Nat → Int} {ms : Nat → Msg} {i : Nat} (h : (ms i).ok) (v : Value) : (elOut ko ms i v).length = 37 := by simp [elOut, Msg.len h]
theorem elAB_len {ko : Nat → Int} {ms : Nat → Msg} {i : Nat} (h : (ms i).ok) (v : Value) : (elAB ko ms i v).length = 99 := ab_len _ _ _ (Msg.len h v)
theorem t60_one : ∀ u ∈ t60, u.oneCell' = true := by
  intro u hu
  have h : t60.all (·.oneCell') = true := by decide +kernel
  exact List.all_eq_true.1 h u hu
theorem ab_one {k to rk : Int} {R : List Value} (h : ∀ u ∈ R, u.oneCell' = true) : ∀ u ∈ abCells k R to rk, u.oneCell' = true := fun u hu => by
  simp only [abCells, List.mem_cons, List.mem_append, List.not_mem_nil, or_false] at hu
  rcases hu with rfl | hu | hu | rfl | rfl
  · rfl
  · exact h u hu
  · exact t60_one u hu
  · rfl
  · rfl
theorem elOut_one {ko : Nat → Int} {ms : Nat → Msg} {i : Nat} {w : World} {v : Value} (h : Reads w v (ms i).p) : ∀ u ∈ elOut ko ms i v, u.oneCell' = true := fun u hu => by
  rcases List.mem_cons.1 hu with rfl | hu
  · rfl
  · exact Msg.one h u hu
theorem elAB_one {ko : Nat → Int} {ms : Nat → Msg} {i : Nat} {w : World} {v : Value} (h : Reads w v (ms i).p) : ∀ u ∈ elAB ko ms i v, u.oneCell' = true := ab_one (Msg.one h)

/-- A slice of Outs that is read. -/
def SrcOut (w : World) (v : Value) (n : Nat) (ko : Nat → Int) (ms : Nat → Msg) (vs : Nat → Value) : Prop :=
  (v = .slice none 0 0 ∧ n = 0) ∨ ∃ (a : Addr) (cap : Nat), v = .slice (some a) n cap ∧ (0 < n → a.spot = none) ∧
    ∀ i, i < n → w.rangeAt a.block (a.off + i * 37) (elOut ko ms i (vs i)) ∧ Reads w (vs i) (ms i).p

/-- A row of its own, its elements told by 'el'. -/
def OwnG (t sz : Nat) (el : Nat → Value → List Value) (pl : Nat → List Int) (B : Nat) (w : World) (v : Value) (n : Nat) (vs : Nat → Value) : Prop :=
  (v = .slice none 0 0 ∧ n = 0) ∨ ∃ b, v = .slice (some ⟨b, 0, none⟩) n n ∧ B ≤ b ∧ RowAt w b t sz n (fun i => el i (vs i)) ∧ ∀ i, i < n → PayAt w (vs i) (pl i)
section
variable {t sz n k : Nat} {el : Nat → Value → List Value} {pl : Nat → List Int} {w wr : World}
theorem OwnG.up {B : Nat} {w' : World} {v : Value} {vs : Nat → Value} (h : OwnG t sz el pl B w v n vs) (k : Below w.heap.size w w') : OwnG t sz el pl B w' v n vs := by
  rcases h with h | ⟨b, hv, hB, hr, hp⟩
  · exact .inl h
  · exact .inr ⟨b, hv, hB, hr.keep (k.block b hr.lt), fun i hi => (hp i hi).up k⟩

/-- What holds behind k rounds; of the elements from k on nothing is said. -/
structure HalfG (t sz n : Nat) (el : Nat → Value → List Value) (pl : Nat → List Int) (w : World) (k : Nat) (wr : World) : Prop where
  row : ∃ (vs : Nat → Value) (E : Nat → List Value), RowAt wr w.heap.size t sz n E ∧ (∀ i, i < k → E i = el i (vs i)) ∧ ∀ i, i < k → PayAt wr (vs i) (pl i)
  old : Below w.heap.size w wr
theorem HalfG.start {z : Array Value} (hz : z.size = sz) : HalfG t sz n el pl w 0 (w.alloc (.cells (madeCells z (n * sz)) t)) :=
  ⟨⟨fun _ => .nilIface, _, row_made w z t n sz hz, fun _ hi => absurd hi (Nat.not_lt_zero _), fun _ hi => absurd hi (Nat.not_lt_zero _)⟩, (Below.refl _ _).alloc (Nat.le_refl _) _⟩
theorem HalfG.there (h : HalfG t sz n el pl w k wr) (hk : k < n) : wr.there w.heap.size (k * sz) sz := by
  obtain ⟨vs, E, hr, _⟩ := h.row
  exact hr.there hk
theorem HalfG.drew (h : HalfG t sz n el pl w k wr) : HalfG t sz n el pl w k wr.drew := by
  obtain ⟨vs, E, hr, h1, h2⟩ := h.row
  exact ⟨⟨vs, E, hr.keep rfl, h1, h2⟩, h.old.drew⟩
theorem HalfG.up {w1 : World} (h : HalfG t sz n el pl w k wr) (b : Below wr.heap.size wr w1) : HalfG t sz n el pl w k w1 := by
  obtain ⟨vs, E, hr, h1, hp⟩ := h.row
  exact ⟨⟨vs, E, hr.keep (b.block _ hr.lt), h1, fun i hi => (hp i hi).up b⟩, below_up h.old b⟩
theorem HalfG.next {v : Value} (h : HalfG t sz n el pl w k wr) (hk : k < n) (ht : t ≠ 5) (hl : (el k v).length = sz) (hp : PayAt wr v (pl k)) : HalfG t sz n el pl w (k + 1) (wr.setCells w.heap.size (k * sz) (el k v)) := by
  obtain ⟨vs, E, hr, h1, hps⟩ := h.row
  obtain ⟨C, hC, _⟩ := hr.blk
  have k5 := keep5_setCells hC ht (k * sz) (el k v)
  refine ⟨⟨fun i => if i = k then v else vs i, _, hr.set hk hl, fun i hi => ?_, fun i hi => ?_⟩, below_setCells _ (Nat.le_refl _) _ _ _ h.old⟩
  · by_cases e : i = k
    · subst e; simp
    · simp [e, h1 i (by omega)]
  · by_cases e : i = k
    · subst e; simpa using hp.keep k5
    · simpa [e] using (hps i (by omega)).keep k5
theorem HalfG.prev (h : HalfG t sz n el pl w (k + 1) wr) : HalfG t sz n el pl w k wr := by
  obtain ⟨vs, E, hr, h1, h2⟩ := h.row
  exact ⟨⟨vs, E, hr, fun i hi => h1 i (by omega), fun i hi => h2 i (by omega)⟩, h.old⟩
theorem HalfG.done (h : HalfG t sz n el pl w n wr) : ∃ vs, OwnG t sz el pl w.heap.size wr (.slice (some ⟨w.heap.size, 0, none⟩) n n) n vs := by
  obtain ⟨vs, E, hr, h1, hp⟩ := h.row
  exact ⟨vs, .inr ⟨w.heap.size, rfl, Nat.le_refl _, hr.congr h1, hp⟩⟩
end
theorem OwnG.src {B n : Nat} {w : World} {v : Value} {ko : Nat → Int} {ms : Nat → Msg} {vs : Nat → Value} (h : OwnG 77 37 (elOut ko ms) (fun i => (ms i).p) B w v n vs) : SrcOut w v n ko ms vs := by
  rcases h with h | ⟨b, hv, hB, hr, hp⟩
  · exact .inl h
  · refine .inr ⟨⟨b, 0, none⟩, n, hv, fun _ => rfl, fun i hi => ⟨?_, (hp i hi).reads⟩⟩
    simpa using hr.rng i hi
theorem range_tail {w : World} {b o : Nat} {c : Value} {cs : List Value} (h : w.rangeAt b o (c :: cs)) : w.rangeAt b (o + 1) cs := fun j v hv => by
  have := h (j + 1) v (by simpa using hv)
  rwa [show o + (j + 1) = o + 1 + j by omega] at this
theorem range_head {w : World} {b o : Nat} {c : Value} {cs : List Value} (h : w.rangeAt b o (c :: cs)) : w.cell? ⟨b, o, none⟩ = some c := h 0 c rfl

set_option maxHeartbeats 1600000 in
set_option maxRecDepth 100000 in
theorem cloneOuts_some (b o n cap : Nat) (s : Option Nat) (ko : Nat → Int) (ms : Nat → Msg) (vs : Nat → Value) (w : World) (hn : n ≤ 16384) (hok : ∀ i, i < n → (ms i).ok) (hs : 0 < n → s = none)
    (hc : ∀ i, i < n → w.rangeAt b (o + i * 37) (elOut ko ms i (vs i)) ∧ Reads w (vs i) (ms i).p) :
    Calls Trym.prog 14 #[.slice (some ⟨b, o, s⟩) n cap] w fun e w' => ∃ v' vs', e = .returned v' ∧ OwnG 77 37 (elOut ko ms) (fun i => (ms i).p) w.heap.size w' v' n vs' ∧ Below w.heap.size w w' := by
  have hnil := fun (w : World) (a : Option Addr) (n c : Nat) => Lib.run_eql_slice_nil (P := Trym.prog) w 31 77 a n c 0 0 Trym.underlying31
  have hmk := run_make_rows (P := Trym.prog) 31 77 (.int .u8 0 :: rb0).toArray 37 88 Trym.underlying31 zero77 n (by omega) (by omega)
  obtain ⟨z, hz⟩ : ∃ z, z = (.int .u8 0 :: rb0).toArray := ⟨_, rfl⟩
  rw [← hz] at hmk
  have hzs : z.size = 37 := by rw [hz]; decide +kernel
  have HZ : Hid (z.size = 37) := hzs
  clear hzs
  clear hz
  have HC : Hid (∀ i, i < n → w.rangeAt b (o + i * 37) (elOut ko ms i (vs i)) ∧ Reads w (vs i) (ms i).p) := hc
  have HO : Hid (∀ i, i < n → (ms i).ok) := hok
  have HS : Hid (0 < n → s = none) := hs
  clear hc hok hs
  go_enter Trym.func14, Trym.ntmps14
  go_wp2
  go_loopw [4] (fun i wr => ∃ k : Nat, k ≤ n ∧ i = .int .i64 k ∧ HalfG 77 37 n (elOut ko ms) (fun i => (ms i).p) w k wr) (fun i _ => n - (intOf i).toNat)
  case atStart => exact ⟨0, Nat.zero_le _, rfl, HalfG.start HZ.out⟩
  case round =>
    obtain ⟨k, hk, rfl, hhalf⟩ := hrel
    have HH : Hid (HalfG 77 37 n (elOut ko ms) (fun i => (ms i).p) w k wr) := hhalf
    clear hhalf
    by_cases hlt : k < n
    · have hs0 : s = none := HS.out (by omega)
      subst hs0
      have h1 : (0 : Int) ≤ (k : Int) := by omega
      have h2 : (k : Int) < (n : Int) := by omega
      go_wp2
      refine region_start (S := HalfG 77 37 n (elOut ko ms) (fun i => (ms i).p) w k) (by kernel_rfl) HH.out.drew 16 rfl [false, false, false, false, false, false, false, false, false, false, false, false, false, false, false, false] rfl (fun hHeld => ?_)
      have HSRC : Hid (∀ w', HalfG 77 37 n (elOut ko ms) (fun i => (ms i).p) w k w' → w'.rangeAt b (o + k * 37) (elOut ko ms k (vs k)) ∧ Reads w' (vs k) (ms k).p) := fun w' h => by
        obtain ⟨hr0, hrd0⟩ := HC.out k hlt
        exact ⟨range_below h.old (range_lt hr0) hr0, hrd0.up h.old⟩
      refine wpAnyH_take (i := 0) (v := .slice (some ⟨w.heap.size, 0, none⟩) n n) (at_list rfl) (by kernel_rfl) (by kernel_rfl) (by kernel_rfl) (fun _ _ _ h => h) (Or.inl ⟨by rfl, ?_⟩) hHeld ?_
      · intro w' _; go_simp
      simp only [Act.put, List.setIfInBounds_toArray, List.set_cons_zero, List.set_cons_succ]
      refine wpAnyH_take (i := 1) (v := .int .i64 k) (at_list rfl) (by kernel_rfl) (by kernel_rfl) (by kernel_rfl) (fun _ _ _ h => h) (Or.inl ⟨by rfl, ?_⟩) hHeld ?_
      · intro w' _; go_simp
      simp only [Act.put, List.setIfInBounds_toArray, List.set_cons_zero, List.set_cons_succ]
      refine wpAnyH_take (i := 2) (v := .slice (some ⟨b, o, none⟩) n cap) (at_list rfl) (by kernel_rfl) (by kernel_rfl) (by kernel_rfl) (fun _ _ _ h => h) (Or.inl ⟨by rfl, ?_⟩) hHeld ?_
      · intro w' _; go_simp
      simp only [Act.put, List.setIfInBounds_toArray, List.set_cons_zero, List.set_cons_succ]
      refine wpAnyH_take (i := 3) (v := .int .i64 k) (at_list rfl) (by kernel_rfl) (by kernel_rfl) (by kernel_rfl) (fun _ _ _ h => h) (Or.inl ⟨by rfl, ?_⟩) hHeld ?_
      · intro w' _; go_simp
      simp only [Act.put, List.setIfInBounds_toArray, List.set_cons_zero, List.set_cons_succ]
      refine wpAnyH_take (i := 4) (v := .pointer (some ⟨b, o + k * 37, none⟩)) (at_list rfl) (by kernel_rfl) (by kernel_rfl) (by kernel_rfl) (fun _ _ _ h => h) (Or.inl ⟨by rfl, ?_⟩) hHeld ?_
      · intro w' _; go_simp
      simp only [Act.put, List.setIfInBounds_toArray, List.set_cons_zero, List.set_cons_succ]
      refine wpAnyH_take (i := 5) (v := .pointer (some ⟨b, o + k * 37, none⟩)) (at_list rfl) (by kernel_rfl) (by kernel_rfl) (by kernel_rfl) (fun _ _ _ h => h) (Or.inl ⟨by rfl, ?_⟩) hHeld ?_
      · intro w' _; go_simp
      simp only [Act.put, List.setIfInBounds_toArray, List.set_cons_zero, List.set_cons_succ]
      refine wpAnyH_take (i := 6) (v := .int .u8 (ko k)) (at_list rfl) (by kernel_rfl) (by kernel_rfl) (by kernel_rfl) (fun _ _ _ h => h) (Or.inl ⟨by rfl, ?_⟩) hHeld ?_
      · intro w' hS'; have hc := range_head (HSRC.out w' hS').1; go_simp
      simp only [Act.put, List.setIfInBounds_toArray, List.set_cons_zero, List.set_cons_succ]
      refine wpAnyH_take (i := 7) (v := .slice (some ⟨b, o, none⟩) n cap) (at_list rfl) (by kernel_rfl) (by kernel_rfl) (by kernel_rfl) (fun _ _ _ h => h) (Or.inl ⟨by rfl, ?_⟩) hHeld ?_
      · intro w' _; go_simp
      simp only [Act.put, List.setIfInBounds_toArray, List.set_cons_zero, List.set_cons_succ]
      refine wpAnyH_take (i := 8) (v := .int .i64 k) (at_list rfl) (by kernel_rfl) (by kernel_rfl) (by kernel_rfl) (fun _ _ _ h => h) (Or.inl ⟨by rfl, ?_⟩) hHeld ?_
      · intro w' _; go_simp
      simp only [Act.put, List.setIfInBounds_toArray, List.set_cons_zero, List.set_cons_succ]
      refine wpAnyH_take (i := 9) (v := .pointer (some ⟨b, o + k * 37, none⟩)) (at_list rfl) (by kernel_rfl) (by kernel_rfl) (by kernel_rfl) (fun _ _ _ h => h) (Or.inl ⟨by rfl, ?_⟩) hHeld ?_
      · intro w' _; go_simp
      simp only [Act.put, List.setIfInBounds_toArray, List.set_cons_zero, List.set_cons_succ]
      refine wpAnyH_take (i := 10) (v := .pointer (some ⟨b, o + k * 37 + 1, none⟩)) (at_list rfl) (by kernel_rfl) (by kernel_rfl) (by kernel_rfl) (fun _ _ _ h => h) (Or.inl ⟨by rfl, ?_⟩) hHeld ?_
      · intro w' _; go_simp
      simp only [Act.put, List.setIfInBounds_toArray, List.set_cons_zero, List.set_cons_succ]
      refine wpAnyH_take (i := 11) (v := .agg ((ms k).cells (vs k)).toArray) (at_list rfl) (by kernel_rfl) (by kernel_rfl) (by kernel_rfl) (fun _ _ _ h => h)
        (yieldsIf_load_mid (by rfl) 75 _ rfl b (o + k * 37 + 1) rfl ((ms k).cells (vs k)) _ (fun w' hS' => range_tail (HSRC.out w' hS').1) Trym.underlying75 rfl (by rw [Msg.len (HO.out k hlt)]; kernel_rfl)) hHeld ?_
      simp only [Act.put, List.setIfInBounds_toArray, List.set_cons_zero, List.set_cons_succ]
      refine region_one (i := 12) rfl (by kernel_rfl) (by rfl) (fun K hK => ?_)
      simp only [List.set_cons_zero, List.set_cons_succ] at hK
      go_simp
      refine (cloneRB_any (ms k) (vs k) _ (HO.out k hlt) (HSRC.out _ hHeld).2).mono ?_
      rintro e w1 ⟨v1, rfl, hp1, hb1⟩
      refine hK.out _ _ (hHeld.up hb1) ?_
      replace hHeld := hHeld.up hb1
      have HP : Hid (PayAt w1 v1 (ms k).p) := hp1
      clear hK K hp1 hb1 HSRC
      refine wpAnyH_take (i := 13) (v := .agg (elOut ko ms k v1).toArray) (at_list rfl) (by kernel_rfl) (by kernel_rfl) (by kernel_rfl) (fun _ _ _ h => h)
        (yieldsIf_built (by rfl) 77 _ rfl [(0, .int .u8 (ko k)), (1, .agg ((ms k).cells v1).toArray)] rfl _ (built77 (ko k) ((ms k).cells v1) (Msg.len (HO.out k hlt) v1))) hHeld ?_
      simp only [Act.put, List.setIfInBounds_toArray, List.set_cons_zero, List.set_cons_succ]
      refine wpAnyH_take (i := 14) (v := .pointer (some ⟨w.heap.size, k * 37, none⟩)) (at_list rfl) (by kernel_rfl) (by kernel_rfl) (by kernel_rfl) (fun _ _ _ h => h) (Or.inl ⟨by rfl, ?_⟩) hHeld ?_
      · intro w' _; go_simp
      simp only [Act.put, List.setIfInBounds_toArray, List.set_cons_zero, List.set_cons_succ]
      refine region_one (i := 15) rfl (by kernel_rfl) (by rfl) (fun K hK => ?_)
      simp only [List.set_cons_zero, List.set_cons_succ] at hK
      have hlen : (elOut ko ms k v1).toArray.size = 37 := by simpa using elOut_len (ko := ko) (HO.out k hlt) v1
      refine wp_store_mid 77 _ _ rfl w.heap.size (k * 37) (elOut ko ms k v1).toArray rfl rfl (by rw [hlen]; exact hHeld.there hlt) (by rw [hlen]; kernel_rfl) (all_oneCell_toArray (elOut_one HP.out.reads)) ?_
      have HN : Hid (HalfG 77 37 n (elOut ko ms) (fun i => (ms i).p) w (k + 1) (w1.setCells w.heap.size (k * 37) (elOut ko ms k v1))) := hHeld.next hlt (by decide) (elOut_len (HO.out k hlt) v1) HP.out
      refine hK.out _ _ HN.out.prev ?_
      clear hK K hHeld hlen
      refine wpAnyH_done (by kernel_rfl) ?_ _
      go_wp2
      go_roundw
      case rel => exact ⟨k + 1, by omega, by go_num, HN.out⟩
      case measure => simp [intOf]; omega
    · go_wp2
      go_ret
      have hkn : k = n := by omega
      subst hkn
      obtain ⟨vs', hown⟩ := HH.out.done
      exact ⟨_, vs', rfl, hown, HH.out.old⟩

theorem cloneOuts_nil (w : World) : Calls Trym.prog 14 #[.slice none 0 0] w fun e w' => e = .returned (.slice none 0 0) ∧ w' = w := by
  have hnil := fun (w : World) (a : Option Addr) (n c : Nat) => Lib.run_eql_slice_nil (P := Trym.prog) w 31 77 a n c 0 0 Trym.underlying31
  go_enter Trym.func14, Trym.ntmps14
  go_wp2
  go_ret
  exact ⟨rfl, rfl⟩

theorem cloneOuts_any (v : Value) (n : Nat) (ko : Nat → Int) (ms : Nat → Msg) (vs : Nat → Value) (w : World) (hn : n ≤ 16384) (hok : ∀ i, i < n → (ms i).ok) (h : SrcOut w v n ko ms vs) :
    Calls Trym.prog 14 #[v] w fun e w' => ∃ v' vs', e = .returned v' ∧ OwnG 77 37 (elOut ko ms) (fun i => (ms i).p) w.heap.size w' v' n vs' ∧ Below w.heap.size w w' := by
  rcases h with ⟨rfl, rfl⟩ | ⟨a, cap, rfl, hs, hc⟩
  · exact (cloneOuts_nil w).mono fun e w' ⟨he, hw⟩ => ⟨_, vs, he, .inl ⟨rfl, rfl⟩, hw ▸ Below.refl _ _⟩
  · exact cloneOuts_some a.block a.off n cap a.spot ko ms vs w hn hok hs hc

set_option maxHeartbeats 1600000 in
set_option maxRecDepth 100000 in
theorem toOuts_some (b o n cap : Nat) (s : Option Nat) (ko : Nat → Int) (ms : Nat → Msg) (vs : Nat → Value) (w : World) (hn : n ≤ 16384) (hok : ∀ i, i < n → (ms i).ok) (hs : 0 < n → s = none)
    (hc : ∀ i, i < n → w.rangeAt b (o + i * 37) (elOut ko ms i (vs i)) ∧ Reads w (vs i) (ms i).p) :
    Calls Trym.prog 20 #[.slice (some ⟨b, o, s⟩) n cap] w fun e w' => ∃ v' vs', e = .returned v' ∧ OwnG 73 99 (elAB ko ms) (fun i => (ms i).p) w.heap.size w' v' n vs' ∧ Below w.heap.size w w' := by
  have hnil := fun (w : World) (a : Option Addr) (n c : Nat) => Lib.run_eql_slice_nil (P := Trym.prog) w 31 77 a n c 0 0 Trym.underlying31
  have hmk := run_make_rows (P := Trym.prog) 44 73 (abCells 0 rb0 0 0).toArray 99 488 Trym.underlying44 zero73 n (by omega) (by omega)
  obtain ⟨z, hz⟩ : ∃ z, z = (abCells 0 rb0 0 0).toArray := ⟨_, rfl⟩
  rw [← hz] at hmk
  have hzs : z.size = 99 := by rw [hz]; decide +kernel
  have HZ : Hid (z.size = 99) := hzs
  clear hzs
  clear hz
  have HC : Hid (∀ i, i < n → w.rangeAt b (o + i * 37) (elOut ko ms i (vs i)) ∧ Reads w (vs i) (ms i).p) := hc
  have HO : Hid (∀ i, i < n → (ms i).ok) := hok
  have HS : Hid (0 < n → s = none) := hs
  clear hc hok hs
  go_enter Trym.func20, Trym.ntmps20
  go_wp2
  go_loopw [4] (fun i wr => ∃ k : Nat, k ≤ n ∧ i = .int .i64 k ∧ HalfG 73 99 n (elAB ko ms) (fun i => (ms i).p) w k wr) (fun i _ => n - (intOf i).toNat)
  case atStart => exact ⟨0, Nat.zero_le _, rfl, HalfG.start HZ.out⟩
  case round =>
    obtain ⟨k, hk, rfl, hhalf⟩ := hrel
    have HH : Hid (HalfG 73 99 n (elAB ko ms) (fun i => (ms i).p) w k wr) := hhalf
    clear hhalf
    by_cases hlt : k < n
    · have hs0 : s = none := HS.out (by omega)
      subst hs0
      have h1 : (0 : Int) ≤ (k : Int) := by omega
      have h2 : (k : Int) < (n : Int) := by omega
      go_wp2
      refine region_start (S := HalfG 73 99 n (elAB ko ms) (fun i => (ms i).p) w k) (by kernel_rfl) HH.out.drew 16 rfl [false, false, false, false, false, false, false, false, false, false, false, false, false, false, false, false] rfl (fun hHeld => ?_)
      have HSRC : Hid (∀ w', HalfG 73 99 n (elAB ko ms) (fun i => (ms i).p) w k w' → w'.rangeAt b (o + k * 37) (elOut ko ms k (vs k)) ∧ Reads w' (vs k) (ms k).p) := fun w' h => by
        obtain ⟨hr0, hrd0⟩ := HC.out k hlt
        exact ⟨range_below h.old (range_lt hr0) hr0, hrd0.up h.old⟩
      refine wpAnyH_take (i := 0) (v := .slice (some ⟨w.heap.size, 0, none⟩) n n) (at_list rfl) (by kernel_rfl) (by kernel_rfl) (by kernel_rfl) (fun _ _ _ h => h) (Or.inl ⟨by rfl, ?_⟩) hHeld ?_
      · intro w' _; go_simp
      simp only [Act.put, List.setIfInBounds_toArray, List.set_cons_zero, List.set_cons_succ]
      refine wpAnyH_take (i := 1) (v := .int .i64 k) (at_list rfl) (by kernel_rfl) (by kernel_rfl) (by kernel_rfl) (fun _ _ _ h => h) (Or.inl ⟨by rfl, ?_⟩) hHeld ?_
      · intro w' _; go_simp
      simp only [Act.put, List.setIfInBounds_toArray, List.set_cons_zero, List.set_cons_succ]
      refine wpAnyH_take (i := 2) (v := .slice (some ⟨b, o, none⟩) n cap) (at_list rfl) (by kernel_rfl) (by kernel_rfl) (by kernel_rfl) (fun _ _ _ h => h) (Or.inl ⟨by rfl, ?_⟩) hHeld ?_
      · intro w' _; go_simp
      simp only [Act.put, List.setIfInBounds_toArray, List.set_cons_zero, List.set_cons_succ]
      refine wpAnyH_take (i := 3) (v := .int .i64 k) (at_list rfl) (by kernel_rfl) (by kernel_rfl) (by kernel_rfl) (fun _ _ _ h => h) (Or.inl ⟨by rfl, ?_⟩) hHeld ?_
      · intro w' _; go_simp
      simp only [Act.put, List.setIfInBounds_toArray, List.set_cons_zero, List.set_cons_succ]
      refine wpAnyH_take (i := 4) (v := .pointer (some ⟨b, o + k * 37, none⟩)) (at_list rfl) (by kernel_rfl) (by kernel_rfl) (by kernel_rfl) (fun _ _ _ h => h) (Or.inl ⟨by rfl, ?_⟩) hHeld ?_
      · intro w' _; go_simp
      simp only [Act.put, List.setIfInBounds_toArray, List.set_cons_zero, List.set_cons_succ]
      refine wpAnyH_take (i := 5) (v := .pointer (some ⟨b, o + k * 37, none⟩)) (at_list rfl) (by kernel_rfl) (by kernel_rfl) (by kernel_rfl) (fun _ _ _ h => h) (Or.inl ⟨by rfl, ?_⟩) hHeld ?_
      · intro w' _; go_simp
      simp only [Act.put, List.setIfInBounds_toArray, List.set_cons_zero, List.set_cons_succ]
      refine wpAnyH_take (i := 6) (v := .int .u8 (ko k)) (at_list rfl) (by kernel_rfl) (by kernel_rfl) (by kernel_rfl) (fun _ _ _ h => h) (Or.inl ⟨by rfl, ?_⟩) hHeld ?_
      · intro w' hS'; have hc := range_head (HSRC.out w' hS').1; go_simp
      simp only [Act.put, List.setIfInBounds_toArray, List.set_cons_zero, List.set_cons_succ]
      refine wpAnyH_take (i := 7) (v := .slice (some ⟨b, o, none⟩) n cap) (at_list rfl) (by kernel_rfl) (by kernel_rfl) (by kernel_rfl) (fun _ _ _ h => h) (Or.inl ⟨by rfl, ?_⟩) hHeld ?_
      · intro w' _; go_simp
      simp only [Act.put, List.setIfInBounds_toArray, List.set_cons_zero, List.set_cons_succ]
      refine wpAnyH_take (i := 8) (v := .int .i64 k) (at_list rfl) (by kernel_rfl) (by kernel_rfl) (by kernel_rfl) (fun _ _ _ h => h) (Or.inl ⟨by rfl, ?_⟩) hHeld ?_
      · intro w' _; go_simp
      simp only [Act.put, List.setIfInBounds_toArray, List.set_cons_zero, List.set_cons_succ]
      refine wpAnyH_take (i := 9) (v := .pointer (some ⟨b, o + k * 37, none⟩)) (at_list rfl) (by kernel_rfl) (by kernel_rfl) (by kernel_rfl) (fun _ _ _ h => h) (Or.inl ⟨by rfl, ?_⟩) hHeld ?_
      · intro w' _; go_simp
      simp only [Act.put, List.setIfInBounds_toArray, List.set_cons_zero, List.set_cons_succ]
      refine wpAnyH_take (i := 10) (v := .pointer (some ⟨b, o + k * 37 + 1, none⟩)) (at_list rfl) (by kernel_rfl) (by kernel_rfl) (by kernel_rfl) (fun _ _ _ h => h) (Or.inl ⟨by rfl, ?_⟩) hHeld ?_
      · intro w' _; go_simp
      simp only [Act.put, List.setIfInBounds_toArray, List.set_cons_zero, List.set_cons_succ]
      refine wpAnyH_take (i := 11) (v := .agg ((ms k).cells (vs k)).toArray) (at_list rfl) (by kernel_rfl) (by kernel_rfl) (by kernel_rfl) (fun _ _ _ h => h)
        (yieldsIf_load_mid (by rfl) 75 _ rfl b (o + k * 37 + 1) rfl ((ms k).cells (vs k)) _ (fun w' hS' => range_tail (HSRC.out w' hS').1) Trym.underlying75 rfl (by rw [Msg.len (HO.out k hlt)]; kernel_rfl)) hHeld ?_
      simp only [Act.put, List.setIfInBounds_toArray, List.set_cons_zero, List.set_cons_succ]
      refine region_one (i := 12) rfl (by kernel_rfl) (by rfl) (fun K hK => ?_)
      simp only [List.set_cons_zero, List.set_cons_succ] at hK
      go_simp
      refine (toRB_any (ms k) (vs k) _ (HO.out k hlt) (HSRC.out _ hHeld).2).mono ?_
      rintro e w1 ⟨v1, rfl, hp1, hb1⟩
      refine hK.out _ _ (hHeld.up hb1) ?_
      replace hHeld := hHeld.up hb1
      have HP : Hid (PayAt w1 v1 (ms k).p) := hp1
      clear hK K hp1 hb1 HSRC
      refine wpAnyH_take (i := 13) (v := .agg (elAB ko ms k v1).toArray) (at_list rfl) (by kernel_rfl) (by kernel_rfl) (by kernel_rfl) (fun _ _ _ h => h)
        (yieldsIf_built (by rfl) 73 _ rfl [(0, .int .u8 (ko k)), (1, .agg ((ms k).cells v1).toArray)] rfl _ (built73 (ko k) ((ms k).cells v1) (Msg.len (HO.out k hlt) v1))) hHeld ?_
      simp only [Act.put, List.setIfInBounds_toArray, List.set_cons_zero, List.set_cons_succ]
      refine wpAnyH_take (i := 14) (v := .pointer (some ⟨w.heap.size, k * 99, none⟩)) (at_list rfl) (by kernel_rfl) (by kernel_rfl) (by kernel_rfl) (fun _ _ _ h => h) (Or.inl ⟨by rfl, ?_⟩) hHeld ?_
      · intro w' _; go_simp
      simp only [Act.put, List.setIfInBounds_toArray, List.set_cons_zero, List.set_cons_succ]
      refine region_one (i := 15) rfl (by kernel_rfl) (by rfl) (fun K hK => ?_)
      simp only [List.set_cons_zero, List.set_cons_succ] at hK
      have hlen : (elAB ko ms k v1).toArray.size = 99 := by simpa using elAB_len (ko := ko) (HO.out k hlt) v1
      refine wp_store_mid 73 _ _ rfl w.heap.size (k * 99) (elAB ko ms k v1).toArray rfl rfl (by rw [hlen]; exact hHeld.there hlt) (by rw [hlen]; kernel_rfl) (all_oneCell_toArray (elAB_one HP.out.reads)) ?_
      have HN : Hid (HalfG 73 99 n (elAB ko ms) (fun i => (ms i).p) w (k + 1) (w1.setCells w.heap.size (k * 99) (elAB ko ms k v1))) := hHeld.next hlt (by decide) (elAB_len (HO.out k hlt) v1) HP.out
      refine hK.out _ _ HN.out.prev ?_
      clear hK K hHeld hlen
      refine wpAnyH_done (by kernel_rfl) ?_ _
      go_wp2
      go_roundw
      case rel => exact ⟨k + 1, by omega, by go_num, HN.out⟩
      case measure => simp [intOf]; omega
    · go_wp2
      go_ret
      have hkn : k = n := by omega
      subst hkn
      obtain ⟨vs', hown⟩ := HH.out.done
      exact ⟨_, vs', rfl, hown, HH.out.old⟩

theorem toOuts_nil (w : World) : Calls Trym.prog 20 #[.slice none 0 0] w fun e w' => e = .returned (.slice none 0 0) ∧ w' = w := by
  have hnil := fun (w : World) (a : Option Addr) (n c : Nat) => Lib.run_eql_slice_nil (P := Trym.prog) w 31 77 a n c 0 0 Trym.underlying31
  go_enter Trym.func20, Trym.ntmps20
  go_wp2
  go_ret
  exact ⟨rfl, rfl⟩

theorem toOuts_any (v : Value) (n : Nat) (ko : Nat → Int) (ms : Nat → Msg) (vs : Nat → Value) (w : World) (hn : n ≤ 16384) (hok : ∀ i, i < n → (ms i).ok) (h : SrcOut w v n ko ms vs) :
    Calls Trym.prog 20 #[v] w fun e w' => ∃ v' vs', e = .returned v' ∧ OwnG 73 99 (elAB ko ms) (fun i => (ms i).p) w.heap.size w' v' n vs' ∧ Below w.heap.size w w' := by
  rcases h with ⟨rfl, rfl⟩ | ⟨a, cap, rfl, hs, hc⟩
  · exact (toOuts_nil w).mono fun e w' ⟨he, hw⟩ => ⟨_, vs, he, .inl ⟨rfl, rfl⟩, hw ▸ Below.refl _ _⟩
  · exact toOuts_some a.block a.off n cap a.spot ko ms vs w hn hok hs hc
end Go.Proofs.Qxb6615968aMods.Cut
