/-
  cloneRBs (15), toRBs (18): a row of messages, copied element by element.
-/
import Derived.Test.Qxb6615968aModsOne
namespace Go.Proofs.Qxb6615968aMods.Cut
open Go Go.RowKit

/-- 'make([]T, n)' over elements of whatever size. -/
theorem run_make_rows {P : Program} (t e : TypeId) (z : Array Value) (size bytes : Nat) (ht : P.underlying t = some (.slice e)) (hinfo : (P.info? e).map (fun i => (i.zero, i.size, i.bytes)) = some (some (.agg z), size, bytes))
    (n : Nat) (hbytes : bytes * n ≤ 281474976710656) (h63 : n ≤ 9223372036854775807) (w : World) :
    (Instr.makeSlice t (.int .i64 (n : Int)) (.int .i64 (n : Int))).run P w = .ok (.slice (some ⟨w.heap.size, 0, none⟩) n n) (w.alloc (.cells (madeCells z (n * size)) e)) := by
  obtain ⟨i, hi, hzz⟩ := Option.map_eq_some_iff.1 hinfo
  simp only [Prod.mk.injEq] at hzz
  obtain ⟨hz, hs, hb⟩ := hzz
  have hb' : (i.bytes : Int) * (n : Int) ≤ 281474976710656 := by
    have h : ((i.bytes * n : Nat) : Int) ≤ 281474976710656 := by rw [hb]; omega
    rwa [Int.natCast_mul] at h
  have hr := run_make (P := P) w t e i (.agg z) ht hi hz .i64 .i64 n n (by omega) (Int.le_refl _) hb' (by omega)
  simp only [Int.toNat_natCast, hs] at hr
  exact hr

theorem keep5_setCells {w1 : World} {g : Nat} {C : Array Value} {t : TypeId} {fr : Nat × Nat} (hg : w1.heap[g]? = some (.cells C t fr)) (ht : t ≠ 5) (o : Nat) (vs : List Value) : Keep5 w1 (w1.setCells g o vs) := fun b X hX => by
  by_cases e : b = g
  · subst e; rw [hg] at hX; simp at hX; exact absurd hX.2.1 ht
  · rw [heap_setCells_other _ _ _ _ _ e]; exact hX

/-- A slice of RBs that is read. -/
def SrcRB (w : World) (v : Value) (n : Nat) (ms : Nat → Msg) (vs : Nat → Value) : Prop :=
  (v = .slice none 0 0 ∧ n = 0) ∨ ∃ (a : Addr) (cap : Nat), v = .slice (some a) n cap ∧ (0 < n → a.spot = none) ∧
    ∀ i, i < n → w.rangeAt a.block (a.off + i * 36) ((ms i).cells (vs i)) ∧ Reads w (vs i) (ms i).p

/-- A slice of RBs (t = 75) or of RBMessages (t = 54) in a row of its own. -/
def OwnRB (t : TypeId) (B : Nat) (w : World) (v : Value) (n : Nat) (ms : Nat → Msg) (vs : Nat → Value) : Prop :=
  (v = .slice none 0 0 ∧ n = 0) ∨ ∃ b, v = .slice (some ⟨b, 0, none⟩) n n ∧ B ≤ b ∧ RowAt w b t 36 n (fun i => (ms i).cells (vs i)) ∧ ∀ i, i < n → PayAt w (vs i) (ms i).p

theorem OwnRB.up {t : TypeId} {B n : Nat} {w w' : World} {v : Value} {ms : Nat → Msg} {vs : Nat → Value} (h : OwnRB t B w v n ms vs) (k : Below w.heap.size w w') : OwnRB t B w' v n ms vs := by
  rcases h with h | ⟨b, hv, hB, hr, hp⟩
  · exact .inl h
  · exact .inr ⟨b, hv, hB, hr.keep (k.block b hr.lt), fun i hi => (hp i hi).up k⟩

theorem OwnRB.src {t : TypeId} {B n : Nat} {w : World} {v : Value} {ms : Nat → Msg} {vs : Nat → Value} (h : OwnRB t B w v n ms vs) : SrcRB w v n ms vs := by
  rcases h with h | ⟨b, hv, hB, hr, hp⟩
  · exact .inl h
  · refine .inr ⟨⟨b, 0, none⟩, n, hv, fun _ => rfl, fun i hi => ⟨?_, (hp i hi).reads⟩⟩
    simpa using hr.rng i hi

theorem range_lt {w : World} {b o : Nat} {c : Value} {cs : List Value} (h : w.rangeAt b o (c :: cs)) : b < w.heap.size :=
  World.block_lt_of_cell? w ⟨b, o + 0, none⟩ (h 0 c rfl)
theorem msg_range_lt {w : World} {b o : Nat} {m : Msg} {v : Value} (h : w.rangeAt b o (m.cells v)) : b < w.heap.size := range_lt h

/-- What holds behind k rounds. -/
structure Half (t : TypeId) (n : Nat) (ms : Nat → Msg) (w : World) (k : Nat) (wr : World) : Prop where
  row : ∃ vs : Nat → Value, RowAt wr w.heap.size t 36 n (fun i => if i < k then (ms i).cells (vs i) else rb0) ∧ ∀ i, i < k → PayAt wr (vs i) (ms i).p
  old : Below w.heap.size w wr
section
variable {t : TypeId} {n k : Nat} {ms : Nat → Msg} {w wr : World}
theorem Half.start : Half t n ms w 0 (w.alloc (.cells (madeCells rb0.toArray (n * 36)) t)) :=
  ⟨⟨fun _ => .nilIface, (row_made w rb0.toArray t n 36 (by simp [rb0_len])).congr (fun i _ => by simp), fun i hi => absurd hi (Nat.not_lt_zero _)⟩, (Below.refl _ _).alloc (Nat.le_refl _) _⟩
theorem Half.there (h : Half t n ms w k wr) (hk : k < n) : wr.there w.heap.size (k * 36) 36 := by
  obtain ⟨vs, hr, _⟩ := h.row
  exact hr.there hk
theorem Half.lt (h : Half t n ms w k wr) : w.heap.size < wr.heap.size := by
  obtain ⟨vs, hr, _⟩ := h.row
  exact hr.lt
theorem Half.up {w1 : World} (h : Half t n ms w k wr) (b : Below wr.heap.size wr w1) : Half t n ms w k w1 := by
  obtain ⟨vs, hr, hp⟩ := h.row
  exact ⟨⟨vs, hr.keep (b.block _ hr.lt), fun i hi => (hp i hi).up b⟩, below_up h.old b⟩
theorem Half.next {v : Value} (h : Half t n ms w k wr) (hk : k < n) (ht : t ≠ 5) (hm : (ms k).ok) (hp : PayAt wr v (ms k).p) : Half t n ms w (k + 1) (wr.setCells w.heap.size (k * 36) ((ms k).cells v)) := by
  obtain ⟨vs, hr, hps⟩ := h.row
  obtain ⟨C, hC, _⟩ := hr.blk
  have k5 := keep5_setCells hC ht (k * 36) ((ms k).cells v)
  refine ⟨⟨fun i => if i = k then v else vs i, (hr.set hk (Msg.len hm v)).congr (fun i _ => ?_), fun i hi => ?_⟩, below_setCells _ (Nat.le_refl _) _ _ _ h.old⟩
  · by_cases e : i = k
    · subst e; simp
    · by_cases e2 : i < k
      · simp [e, e2, show i < k + 1 by omega]
      · simp [e, e2, show ¬ i < k + 1 by omega]
  · by_cases e : i = k
    · subst e; simpa using hp.keep k5
    · simpa [e] using (hps i (by omega)).keep k5
theorem Half.done (h : Half t n ms w n wr) : ∃ vs, OwnRB t w.heap.size wr (.slice (some ⟨w.heap.size, 0, none⟩) n n) n ms vs := by
  obtain ⟨vs, hr, hp⟩ := h.row
  exact ⟨vs, .inr ⟨w.heap.size, rfl, Nat.le_refl _, hr.congr (fun i hi => by simp [hi]), hp⟩⟩
end

set_option maxHeartbeats 1600000 in
set_option maxRecDepth 100000 in
theorem cloneRBs_some (b o n cap : Nat) (s : Option Nat) (ms : Nat → Msg) (vs : Nat → Value) (w : World) (hn : n ≤ 16384) (hok : ∀ i, i < n → (ms i).ok) (hs : 0 < n → s = none)
    (hc : ∀ i, i < n → w.rangeAt b (o + i * 36) ((ms i).cells (vs i)) ∧ Reads w (vs i) (ms i).p) :
    Calls Trym.prog 15 #[.slice (some ⟨b, o, s⟩) n cap] w fun e w' => ∃ v' vs', e = .returned v' ∧ OwnRB 75 w.heap.size w' v' n ms vs' ∧ Below w.heap.size w w' := by
  have hnil := fun (w : World) (a : Option Addr) (n c : Nat) => Lib.run_eql_slice_nil (P := Trym.prog) w 32 75 a n c 0 0 Trym.underlying32
  have hmk := run_make_rows (P := Trym.prog) 32 75 rb0.toArray 36 80 Trym.underlying32 zero75 n (by omega) (by omega)
  have HC : Hid (∀ i, i < n → w.rangeAt b (o + i * 36) ((ms i).cells (vs i)) ∧ Reads w (vs i) (ms i).p) := hc
  have HO : Hid (∀ i, i < n → (ms i).ok) := hok
  have HS : Hid (0 < n → s = none) := hs
  clear hc hok hs
  go_enter Trym.func15, Trym.ntmps15
  go_wp2
  go_loopw [4] (fun i wr => ∃ k : Nat, k ≤ n ∧ i = .int .i64 k ∧ Half 75 n ms w k wr) (fun i _ => n - (intOf i).toNat)
  case atStart => exact ⟨0, Nat.zero_le _, rfl, Half.start⟩
  case round =>
    obtain ⟨k, hk, rfl, hhalf⟩ := hrel
    have HH : Hid (Half 75 n ms w k wr) := hhalf
    clear hhalf
    by_cases hlt : k < n
    · have hs0 : s = none := HS.out (by omega)
      subst hs0
      obtain ⟨hr0, hrd0⟩ := HC.out k hlt
      have hsrc : wr.rangeAt b (o + k * 36) ((ms k).cells (vs k)) := range_below HH.out.old (msg_range_lt hr0) hr0
      have HRD : Hid (Reads wr (vs k) (ms k).p) := hrd0.up HH.out.old
      clear hr0 hrd0
      have hlen : ((ms k).cells (vs k)).length = 36 := Msg.len (HO.out k hlt) _
      go_wp2_with (refine wpList_load_mid rfl 75 (.tmp 20) rfl b (o + k * 36) rfl ((ms k).cells (vs k)) _ hsrc Trym.underlying75 rfl (by rw [hlen]; kernel_rfl) ?_)
      refine (cloneRB_any (ms k) (vs k) _ (HO.out k hlt) HRD.out).mono ?_
      rintro e w1 ⟨v1, rfl, hp1, hb1⟩
      have HP : Hid (PayAt w1 v1 (ms k).p) := hp1
      have H1 : Hid (Half 75 n ms w k w1) := HH.out.up hb1
      clear hp1 hb1 hsrc hlen
      have hlen : ((ms k).cells v1).toArray.size = 36 := by simpa using Msg.len (HO.out k hlt) v1
      go_wp2_with (refine wpList_store_mid rfl 75 (.tmp 23) (.tmp 22) rfl w.heap.size (k * 36) ((ms k).cells v1).toArray rfl rfl (by rw [hlen]; exact H1.out.there hlt) (by rw [hlen]; kernel_rfl) (all_oneCell_toArray (Msg.one HP.out.reads)) ?_)
      go_roundw
      case rel => exact ⟨k + 1, by omega, by go_num, H1.out.next hlt (by decide) (HO.out k hlt) HP.out⟩
      case measure => simp [intOf]; omega
    · go_wp2
      go_ret
      have hkn : k = n := by omega
      subst hkn
      obtain ⟨vs', hown⟩ := HH.out.done
      exact ⟨_, vs', rfl, hown, HH.out.old⟩

theorem cloneRBs_nil (w : World) : Calls Trym.prog 15 #[.slice none 0 0] w fun e w' => e = .returned (.slice none 0 0) ∧ w' = w := by
  have hnil := fun (w : World) (a : Option Addr) (n c : Nat) => Lib.run_eql_slice_nil (P := Trym.prog) w 32 75 a n c 0 0 Trym.underlying32
  go_enter Trym.func15, Trym.ntmps15
  go_wp2
  go_ret
  exact ⟨rfl, rfl⟩

theorem cloneRBs_any (v : Value) (n : Nat) (ms : Nat → Msg) (vs : Nat → Value) (w : World) (hn : n ≤ 16384) (hok : ∀ i, i < n → (ms i).ok) (h : SrcRB w v n ms vs) :
    Calls Trym.prog 15 #[v] w fun e w' => ∃ v' vs', e = .returned v' ∧ OwnRB 75 w.heap.size w' v' n ms vs' ∧ Below w.heap.size w w' := by
  rcases h with ⟨rfl, rfl⟩ | ⟨a, cap, rfl, hs, hc⟩
  · exact (cloneRBs_nil w).mono fun e w' ⟨he, hw⟩ => ⟨_, vs, he, .inl ⟨rfl, rfl⟩, hw ▸ Below.refl _ _⟩
  · exact cloneRBs_some a.block a.off n cap a.spot ms vs w hn hok hs hc

set_option maxHeartbeats 1600000 in
set_option maxRecDepth 100000 in
theorem toRBs_some (b o n cap : Nat) (s : Option Nat) (ms : Nat → Msg) (vs : Nat → Value) (w : World) (hn : n ≤ 16384) (hok : ∀ i, i < n → (ms i).ok) (hs : 0 < n → s = none)
    (hc : ∀ i, i < n → w.rangeAt b (o + i * 36) ((ms i).cells (vs i)) ∧ Reads w (vs i) (ms i).p) :
    Calls Trym.prog 18 #[.slice (some ⟨b, o, s⟩) n cap] w fun e w' => ∃ v' vs', e = .returned v' ∧ OwnRB 54 w.heap.size w' v' n ms vs' ∧ Below w.heap.size w w' := by
  have hnil := fun (w : World) (a : Option Addr) (n c : Nat) => Lib.run_eql_slice_nil (P := Trym.prog) w 32 75 a n c 0 0 Trym.underlying32
  have hmk := run_make_rows (P := Trym.prog) 42 54 rb0.toArray 36 80 Trym.underlying42 zero54 n (by omega) (by omega)
  have HC : Hid (∀ i, i < n → w.rangeAt b (o + i * 36) ((ms i).cells (vs i)) ∧ Reads w (vs i) (ms i).p) := hc
  have HO : Hid (∀ i, i < n → (ms i).ok) := hok
  have HS : Hid (0 < n → s = none) := hs
  clear hc hok hs
  go_enter Trym.func18, Trym.ntmps18
  go_wp2
  go_loopw [4] (fun i wr => ∃ k : Nat, k ≤ n ∧ i = .int .i64 k ∧ Half 54 n ms w k wr) (fun i _ => n - (intOf i).toNat)
  case atStart => exact ⟨0, Nat.zero_le _, rfl, Half.start⟩
  case round =>
    obtain ⟨k, hk, rfl, hhalf⟩ := hrel
    have HH : Hid (Half 54 n ms w k wr) := hhalf
    clear hhalf
    by_cases hlt : k < n
    · have hs0 : s = none := HS.out (by omega)
      subst hs0
      obtain ⟨hr0, hrd0⟩ := HC.out k hlt
      have hsrc : wr.rangeAt b (o + k * 36) ((ms k).cells (vs k)) := range_below HH.out.old (msg_range_lt hr0) hr0
      have HRD : Hid (Reads wr (vs k) (ms k).p) := hrd0.up HH.out.old
      clear hr0 hrd0
      have hlen : ((ms k).cells (vs k)).length = 36 := Msg.len (HO.out k hlt) _
      go_wp2_with (refine wpList_load_mid rfl 75 (.tmp 20) rfl b (o + k * 36) rfl ((ms k).cells (vs k)) _ hsrc Trym.underlying75 rfl (by rw [hlen]; kernel_rfl) ?_)
      refine (toRB_any (ms k) (vs k) _ (HO.out k hlt) HRD.out).mono ?_
      rintro e w1 ⟨v1, rfl, hp1, hb1⟩
      have HP : Hid (PayAt w1 v1 (ms k).p) := hp1
      have H1 : Hid (Half 54 n ms w k w1) := HH.out.up hb1
      clear hp1 hb1 hsrc hlen
      have hlen : ((ms k).cells v1).toArray.size = 36 := by simpa using Msg.len (HO.out k hlt) v1
      go_wp2_with (refine wpList_store_mid rfl 54 (.tmp 23) (.tmp 22) rfl w.heap.size (k * 36) ((ms k).cells v1).toArray rfl rfl (by rw [hlen]; exact H1.out.there hlt) (by rw [hlen]; kernel_rfl) (all_oneCell_toArray (Msg.one HP.out.reads)) ?_)
      go_roundw
      case rel => exact ⟨k + 1, by omega, by go_num, H1.out.next hlt (by decide) (HO.out k hlt) HP.out⟩
      case measure => simp [intOf]; omega
    · go_wp2
      go_ret
      have hkn : k = n := by omega
      subst hkn
      obtain ⟨vs', hown⟩ := HH.out.done
      exact ⟨_, vs', rfl, hown, HH.out.old⟩

theorem toRBs_nil (w : World) : Calls Trym.prog 18 #[.slice none 0 0] w fun e w' => e = .returned (.slice none 0 0) ∧ w' = w := by
  have hnil := fun (w : World) (a : Option Addr) (n c : Nat) => Lib.run_eql_slice_nil (P := Trym.prog) w 32 75 a n c 0 0 Trym.underlying32
  go_enter Trym.func18, Trym.ntmps18
  go_wp2
  go_ret
  exact ⟨rfl, rfl⟩

theorem toRBs_any (v : Value) (n : Nat) (ms : Nat → Msg) (vs : Nat → Value) (w : World) (hn : n ≤ 16384) (hok : ∀ i, i < n → (ms i).ok) (h : SrcRB w v n ms vs) :
    Calls Trym.prog 18 #[v] w fun e w' => ∃ v' vs', e = .returned v' ∧ OwnRB 54 w.heap.size w' v' n ms vs' ∧ Below w.heap.size w w' := by
  rcases h with ⟨rfl, rfl⟩ | ⟨a, cap, rfl, hs, hc⟩
  · exact (toRBs_nil w).mono fun e w' ⟨he, hw⟩ => ⟨_, vs, he, .inl ⟨rfl, rfl⟩, hw ▸ Below.refl _ _⟩
  · exact toRBs_some a.block a.off n cap a.spot ms vs w hn hok hs hc
end Go.Proofs.Qxb6615968aMods.Cut
