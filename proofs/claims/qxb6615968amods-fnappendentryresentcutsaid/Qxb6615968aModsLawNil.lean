/-
  The law itself (5): nothing is owed.
-/
import Derived.Test.Qxb6615968aModsLaw
namespace Go.Proofs.Qxb6615968aMods.Cut
open Go Go.RowKit

set_option maxHeartbeats 1000000 in
set_option maxRecDepth 100000 in
theorem law_nil (n to k : Int) (ew : Bool)  (lO cO n1 n2 : Nat) (v1 v2 : Value) (ko : Nat → Int) (mo mm : Nat → Msg) (vs1 vs2 : Nat → Value) (w : World)
    (h0 : lO = 0 ∧ cO = 0) (h1 : SrcOut w v1 n1 ko mo vs1) (h2 : SrcRB w v2 n2 mm vs2) (hd1 : ∀ i, i < n1 → (mo i).d.length = 32) (hd2 : ∀ i, i < n2 → (mm i).d.length = 32) :
    Calls Trym.prog 5 #[.int .i64 n, .int .i64 to, .bool ew, .slice none lO cO, v1, v2, .int .i64 k] w fun e w' => e = .returned (.bool true) ∧ Below w.heap.size w w' := by
  have hneq := fun (w : World) (a : Option Addr) (n c : Nat) => run_neq_slice_nil_any (P := Trym.prog) w 30 4 a n c 0 0 Trym.underlying30
  have H0 : Hid (lO = 0 ∧ cO = 0) := h0
  have H1 : Hid (SrcOut w v1 n1 ko mo vs1) := h1
  have H2 : Hid (SrcRB w v2 n2 mm vs2) := h2
  have HD1 : Hid (∀ i, i < n1 → (mo i).d.length = 32) := hd1
  have HD2 : Hid (∀ i, i < n2 → (mm i).d.length = 32) := hd2
  clear h0 h1 h2 hd1 hd2
  obtain ⟨a1, c1, rfl, hq1⟩ := H1.out.lens
  obtain ⟨a2, c2, rfl, hq2⟩ := H2.out.lens
  clear hq1 hq2
  go_enter Trym.func5, Trym.ntmps5
  go_wp2_with fail
  refine (bytes_any n to k ew none lO cO (.slice a1 n1 c1) (.slice a2 n2 c2) n1 n2 _ _ w H1.out.lens H2.out.lens).mono ?_
  rintro e w' ⟨r1, rfl, rfl, _⟩
  cases r1 with
  | false =>
    go_wp2
    go_ret
    exact ⟨rfl, Below.refl _ _⟩
  | true =>
  go_wp2_with fail
  refine (fits_any none lO cO (.slice a1 n1 c1) (.slice a2 n2 c2) n1 n2 _ _ w' H1.out.lens H2.out.lens).mono ?_
  rintro e w'' ⟨r2, rfl, rfl, hr2⟩
  cases r2 with
  | false =>
    go_wp2
    go_ret
    exact ⟨rfl, Below.refl _ _⟩
  | true =>
  obtain ⟨b0, b1, b2, b3, b4⟩ := hr2 rfl
  have HOK1 : Hid (∀ i, i < n1 → (mo i).ok) := fun i hi => ⟨HD1.out i hi, b3 i hi⟩
  have HOK2 : Hid (∀ i, i < n2 → (mm i).ok) := fun i hi => ⟨HD2.out i hi, b4 i hi⟩
  clear hr2 b3 b4 HD1 HD2
  by_cases g1 : n < 1
  · go_wp2
    go_ret
    exact ⟨rfl, Below.refl _ _⟩
  by_cases g2 : 65536 < n
  · go_wp2
    go_ret
    exact ⟨rfl, Below.refl _ _⟩
  by_cases g3 : to < 1
  · go_wp2
    go_ret
    exact ⟨rfl, Below.refl _ _⟩
  by_cases g4 : n < to
  · go_wp2
    go_ret
    exact ⟨rfl, Below.refl _ _⟩
  obtain ⟨N, rfl⟩ : ∃ N : Nat, n = (N : Int) := ⟨n.toNat, by omega⟩
  obtain ⟨rfl, rfl⟩ := H0.out
  have HSB : Hid (SrcB N w'' (.slice none 0 0)) := .inl rfl
  by_cases g5 : k < 0
  · go_wp2
    go_ret
    exact ⟨rfl, Below.refl _ _⟩
  by_cases g6 : (n2 : Int) < k
  · go_wp2
    go_ret
    exact ⟨rfl, Below.refl _ _⟩
  obtain ⟨kk, rfl⟩ : ∃ kk : Nat, k = (kk : Int) := ⟨k.toNat, by omega⟩
  go_wp2_with fail
  refine (cloneB_any N _ _ (by omega) HSB.out).mono ?_
  rintro e w1 ⟨v0, rfl, ho1, hb1⟩
  have HO1 : Hid (OwB N w''.heap.size w1 v0) := ho1
  have HB1 : Hid (Below w''.heap.size w'' w1) := hb1
  clear ho1 hb1 HSB
  go_wp2_with fail
  refine (cloneOuts_any (.slice a1 n1 c1) n1 ko mo vs1 w1 b1 HOK1.out (H1.out.up HB1.out)).mono ?_
  rintro e w2 ⟨u1, ps1, rfl, ho2, hb2⟩
  have HO2 : Hid (OwnG 77 37 (elOut ko mo) (fun i => (mo i).p) w1.heap.size w2 u1 n1 ps1) := ho2
  have HB2 : Hid (Below w1.heap.size w1 w2) := hb2
  clear ho2 hb2
  go_wp2_with fail
  refine (cloneRBs_any (.slice a2 n2 c2) n2 mm vs2 w2 b2 HOK2.out ((H2.out.up HB1.out).up HB2.out)).mono ?_
  rintro e w3 ⟨u2, ps2, rfl, ho3, hb3⟩
  have HO3 : Hid (OwnRB 75 w2.heap.size w3 u2 n2 mm ps2) := ho3
  have HB3 : Hid (Below w2.heap.size w2 w3) := hb3
  clear ho3 hb3
  go_wp2_with fail
  refine (arch_any N w3).mono ?_
  rintro e w4 ⟨rfl, hc4, hb4, hs4⟩
  have HCL : Hid (Clones N n1 n2 ko mo mm v0 u1 u2 w3.heap.size w4) := ⟨((((HO1.out.up HB2.out).up HB3.out).up hb4).low 0 (Nat.zero_le _)), ⟨ps1, ((HO2.out.up HB3.out).up hb4).low 0 (Nat.zero_le _)⟩, ⟨ps2, (HO3.out.up hb4).low 0 (Nat.zero_le _)⟩, hc4⟩
  have HB4 : Hid (Below w''.heap.size w'' w4) := below_up (below_up (below_up HB1.out HB2.out) HB3.out) hb4
  have HS4 : Hid (w3.heap.size < w4.heap.size) := hs4
  clear hc4 hb4 hs4 HO1 HO2 HO3 HB1 HB2 HB3 H1 H2 H0
  have HK2 : Hid (kk ≤ n2) := (by show kk ≤ n2; omega)
  obtain ⟨q1, hq1⟩ := HCL.out.msg
  have HM4 : Hid (OwnRB 75 0 w4 u2 n2 mm q1) := hq1
  clear hq1
  go_wp2_with fail
  refine (toRBs_any u2 n2 mm q1 w4 b2 HOK2.out HM4.out.src).mono ?_
  rintro e w5 ⟨vm, ms5, rfl, hm5, hb5⟩
  have HM5 : Hid (OwnRB 54 w4.heap.size w5 vm n2 mm ms5) := hm5
  have HB5 : Hid (Below w4.heap.size w4 w5) := hb5
  clear hm5 hb5 HM4
  go_wp2_with fail
  refine (cloneB_any N v0 w5 (by omega) (HCL.out.up HB5.out).ow.src).mono ?_
  rintro e w6 ⟨vo, rfl, ho6, hb6⟩
  have HO6 : Hid (OwB N w4.heap.size w6 vo) := ho6.low _ HB5.out.size
  have HB6 : Hid (Below w4.heap.size w4 w6) := below_up HB5.out hb6
  have HM6 : Hid (OwnRB 54 w4.heap.size w6 vm n2 mm ms5) := HM5.out.up hb6
  clear ho6 hb6 HM5 HB5
  go_wp2_with fail
  refine (ent_any (ew := ew) HM6.out HO6.out HB6.out.size).mono ?_
  rintro e w7 ⟨rfl, he7, hb7, hs7⟩
  have HE7 : Hid (Entry N w4.heap.size ew n2 mm w6.heap.size w7) := he7
  have HB7 : Hid (Below w4.heap.size w4 w7) := below_up HB6.out hb7
  clear he7 hb7 hs7 HM6 HO6
  obtain ⟨q2, hq2⟩ := (HCL.out.up HB7.out).out
  have HG7 : Hid (OwnG 77 37 (elOut ko mo) (fun i => (mo i).p) 0 w7 u1 n1 q2) := hq2
  clear hq2
  go_wp2_with fail
  refine (toOuts_any u1 n1 ko mo q2 w7 b1 HOK1.out HG7.out.src).mono ?_
  rintro e w8 ⟨vq, ms8, rfl, ho8, hb8⟩
  obtain ⟨x8, ha8⟩ := abs_new (ho8.low w4.heap.size HB7.out.size) b1
  have HA8 : Hid (ABs w4.heap.size w8 vq n1 (elAB ko mo) (fun i => (mo i).p) x8 ms8) := ha8
  have HE8 : Hid (Entry N w4.heap.size ew n2 mm w6.heap.size w8) := HE7.out.up hb8
  have HB8 : Hid (Below w4.heap.size w4 w8) := below_up HB7.out hb8
  clear ho8 hb8 ha8 HG7 HE7 HB7 HB6
  go_wp2_with fail
  refine (append_abs HE8.out HA8.out HB8.out.size (Nat.le_refl _) HS4.out (HCL.out.up HB8.out).arch (by omega) g3 g4 (by omega) HOK2.out).mono ?_
  rintro e w9 ⟨vg, xg, pg, rfl, ha9, hb9, hk9⟩
  have HG9 : Hid (ABs w4.heap.size w9 vg (n1 + n2) (cellC n1 ko mo mm to) (fun i => (mg n1 mo mm i).p) xg pg) := ha9.canon rfl (fun i _ v => canon_cell ko mo mm to i v) (fun i _ => canon_pl mo mm i)
  have HB49 : Hid (Below w4.heap.size w4 w9) := HB8.out.trans hb9
  have HC9 : Hid (Clones N n1 n2 ko mo mm v0 u1 u2 w3.heap.size w9) := HCL.out.up HB49.out
  have HB9 : Hid (Below w''.heap.size w'' w9) := below_up HB4.out HB49.out
  have HS9 : Hid (w3.heap.size < w9.heap.size) := Nat.lt_of_lt_of_le HS4.out HB49.out.size
  clear ha9 hb9 hk9 HE8 HA8 HB8 HCL HB4 HS4 HB49
  obtain ⟨q3, hq3⟩ := HC9.out.msg
  obtain ⟨s1, hs1, hsr1⟩ := slice_to hq3 HK2.out
  obtain ⟨s2, hs2, hsr2⟩ := slice_from hq3 HK2.out
  have HSR1 : Hid (SrcRB w9 s1 kk mm q3) := hsr1
  have HSR2 : Hid (SrcRB w9 s2 (n2 - kk) (fun i => mm (kk + i)) (fun i => q3 (kk + i))) := hsr2
  have HOKA : Hid (∀ i, i < kk → (mm i).ok) := fun i hi => HOK2.out i (by have := HK2.out; omega)
  have HOKB : Hid (∀ i, i < n2 - kk → ((fun i => mm (kk + i)) i).ok) := fun i hi => HOK2.out (kk + i) (by omega)
  clear hq3 hsr1 hsr2
  go_wp2_with fail
  refine (toRBs_any s1 kk mm q3 w9 (by have := HK2.out; omega) HOKA.out HSR1.out).mono ?_
  rintro e w10 ⟨vm1, ms10, rfl, hm10, hb10⟩
  have HM10 : Hid (OwnRB 54 w9.heap.size w10 vm1 kk mm ms10) := hm10
  have HB10 : Hid (Below w9.heap.size w9 w10) := hb10
  clear hm10 hb10 HSR1
  go_wp2_with fail
  refine (cloneB_any N v0 w10 (by omega) (HC9.out.up HB10.out).ow.src).mono ?_
  rintro e w11 ⟨vo1, rfl, ho11, hb11⟩
  have HO11 : Hid (OwB N w9.heap.size w11 vo1) := ho11.low _ HB10.out.size
  have HB11 : Hid (Below w9.heap.size w9 w11) := below_up HB10.out hb11
  have HM11 : Hid (OwnRB 54 w9.heap.size w11 vm1 kk mm ms10) := HM10.out.up hb11
  clear ho11 hb11 HM10 HB10
  go_wp2_with fail
  refine (ent_any (ew := ew) HM11.out HO11.out HB11.out.size).mono ?_
  rintro e w12 ⟨rfl, he12, hb12, hs12⟩
  have HE12 : Hid (Entry N w9.heap.size ew kk mm w11.heap.size w12) := he12
  have HB12 : Hid (Below w9.heap.size w9 w12) := below_up HB11.out hb12
  have HS12 : Hid (w11.heap.size < w12.heap.size) := hs12
  clear he12 hb12 hs12 HM11 HO11 HB11 hs1
  go_wp2_with fail
  refine (toRBs_any s2 (n2 - kk) (fun i => mm (kk + i)) (fun i => q3 (kk + i)) w12 (by omega) HOKB.out (HSR2.out.up HB12.out)).mono ?_
  rintro e w13 ⟨vm2, ms13, rfl, hm13, hb13⟩
  have HM13 : Hid (OwnRB 54 w12.heap.size w13 vm2 (n2 - kk) (fun i => mm (kk + i)) ms13) := hm13
  have HB13 : Hid (Below w12.heap.size w12 w13) := hb13
  clear hm13 hb13 HSR2
  go_wp2_with fail
  refine (cloneB_any N v0 w13 (by omega) ((HC9.out.up HB12.out).up HB13.out).ow.src).mono ?_
  rintro e w14 ⟨vo2, rfl, ho14, hb14⟩
  have HO14 : Hid (OwB N w12.heap.size w14 vo2) := ho14.low _ HB13.out.size
  have HB14 : Hid (Below w12.heap.size w12 w14) := below_up HB13.out hb14
  have HM14 : Hid (OwnRB 54 w12.heap.size w14 vm2 (n2 - kk) (fun i => mm (kk + i)) ms13) := HM13.out.up hb14
  clear ho14 hb14 HM13 HB13
  go_wp2_with fail
  refine (ent_any (ew := ew) HM14.out HO14.out HB14.out.size).mono ?_
  rintro e w15 ⟨rfl, he15, hb15, hs15⟩
  have HE15 : Hid (Entry N w12.heap.size ew (n2 - kk) (fun i => mm (kk + i)) w14.heap.size w15) := he15
  have HB15 : Hid (Below w12.heap.size w12 w15) := below_up HB14.out hb15
  have HF15 : Hid (Entry N w9.heap.size ew kk mm w11.heap.size w15) := HE12.out.up HB15.out
  have HD15 : Hid (Below w9.heap.size w9 w15) := below_up HB12.out HB15.out
  have HS15 : Hid (w9.heap.size ≤ w12.heap.size) := HB12.out.size
  clear he15 hb15 hs15 HM14 HO14 HB14 HE12 HB12 HB15 hs2
  obtain ⟨q4, hq4⟩ := (HC9.out.up HD15.out).out
  have HG15 : Hid (OwnG 77 37 (elOut ko mo) (fun i => (mo i).p) 0 w15 u1 n1 q4) := hq4
  clear hq4
  go_wp2_with fail
  refine (toOuts_any u1 n1 ko mo q4 w15 b1 HOK1.out HG15.out.src).mono ?_
  rintro e w16 ⟨vr, ms16, rfl, ho16, hb16⟩
  obtain ⟨x16, ha16⟩ := abs_new (ho16.low w9.heap.size HD15.out.size) b1
  have HA16 : Hid (ABs w9.heap.size w16 vr n1 (elAB ko mo) (fun i => (mo i).p) x16 ms16) := ha16
  have HE16 : Hid (Entry N w12.heap.size ew (n2 - kk) (fun i => mm (kk + i)) w14.heap.size w16) := HE15.out.up hb16
  have HF16 : Hid (Entry N w9.heap.size ew kk mm w11.heap.size w16) := HF15.out.up hb16
  have HD16 : Hid (Below w9.heap.size w9 w16) := below_up HD15.out hb16
  clear ho16 hb16 ha16 HG15 HE15 HF15 HD15
  go_wp2_with fail
  refine (append_abs HF16.out HA16.out HD16.out.size (Nat.le_refl _) HS9.out (HC9.out.up HD16.out).arch (by omega) g3 g4 (by have := HK2.out; omega) HOKA.out).mono ?_
  rintro e w17 ⟨vmid, xm, pm, rfl, ha17, hb17, hk17⟩
  have HA17 : Hid (ABs w9.heap.size w17 vmid (n1 + kk) (fun i v => if i < n1 then elAB ko mo i v else abCells 9 ((mm (i - n1)).cells v) to 1) (fun i => if i < n1 then (mo i).p else (mm (i - n1)).p) xm pm) := ha17
  have HE17 : Hid (Entry N w12.heap.size ew (n2 - kk) (fun i => mm (kk + i)) w14.heap.size w17) := hk17 _ _ _ _ HS12.out HE16.out
  have HD17 : Hid (Below w9.heap.size w9 w17) := HD16.out.trans hb17
  clear ha17 hb17 hk17 HF16 HA16 HE16 HD16
  go_wp2_with fail
  refine (append_abs HE17.out HA17.out HD17.out.size HS15.out HS9.out (HC9.out.up HD17.out).arch (by omega) g3 g4 (by have := HK2.out; omega) HOKB.out).mono ?_
  rintro e w18 ⟨vt, xt, pt, rfl, ha18, hb18, hk18⟩
  have HT18 : Hid (ABs w9.heap.size w18 vt (n1 + n2) (cellC n1 ko mo mm to) (fun i => (mg n1 mo mm i).p) xt pt) := ha18.canon (by have := HK2.out; omega) (fun i _ v => canon_cell2 ko mo mm to i v) (fun i _ => canon_pl2 mo mm i)
  have HD18 : Hid (Below w9.heap.size w9 w18) := HD17.out.trans hb18
  have HG18 : Hid (ABs w4.heap.size w18 vg (n1 + n2) (cellC n1 ko mo mm to) (fun i => (mg n1 mo mm i).p) xg pg) := HG9.out.up HD18.out
  have HC18 : Hid (Clones N n1 n2 ko mo mm v0 u1 u2 w3.heap.size w18) := HC9.out.up HD18.out
  have HB18 : Hid (Below w''.heap.size w'' w18) := below_up HB9.out HD18.out
  clear ha18 hb18 hk18 HE17 HA17 HD17 HG9 HC9 HB9 HD18 HS9 HS15 HS12 HOKA HOKB
  obtain ⟨ag, cg, rfl⟩ := HG18.out.slice
  obtain ⟨at_, ct, rfl⟩ := HT18.out.slice
  obtain ⟨qo, hqo⟩ := HC18.out.out
  obtain ⟨qm, hqm⟩ := HC18.out.msg
  obtain ⟨ao1, co1, rfl⟩ := hqo.slice
  obtain ⟨ao2, co2, rfl⟩ := hqm.slice
  have HF : Hid (Fin w'' n1 n2 ko mo mm to (.slice ao1 n1 co1) (.slice ao2 n2 co2) (.slice ag (n1 + n2) cg) (.slice at_ (n1 + n2) ct) w4.heap.size w9.heap.size xg xt pg pt qo qm w18) := ⟨hqo, hqm, HG18.out, HT18.out, HB18.out⟩
  clear hqo hqm HG18 HT18 HB18 HC18
  go_wp2
  go_loopw [22] (fun i wr => ∃ j : Nat, j ≤ n1 + n2 ∧ i = .int .i64 j ∧ Fin w'' n1 n2 ko mo mm to (.slice ao1 n1 co1) (.slice ao2 n2 co2) (.slice ag (n1 + n2) cg) (.slice at_ (n1 + n2) ct) w4.heap.size w9.heap.size xg xt pg pt qo qm wr) (fun i _ => (n1 + n2) - (intOf i).toNat)
  case atStart => exact ⟨0, Nat.zero_le _, rfl, HF.out⟩
  case round =>
    obtain ⟨j, hj, rfl, hfin⟩ := hrel
    clear HF
    have HF : Hid (Fin w'' n1 n2 ko mo mm to (.slice ao1 n1 co1) (.slice ao2 n2 co2) (.slice ag (n1 + n2) cg) (.slice at_ (n1 + n2) ct) w4.heap.size w9.heap.size xg xt pg pt qo qm wr) := hfin
    clear hfin
    by_cases hlt : j < n1 + n2
    · obtain ⟨gb, rfl, _⟩ := HF.out.got.at hlt
      obtain ⟨tb, rfl, _⟩ := HF.out.two.at hlt
      have i1 : (0 : Int) ≤ (j : Int) := by omega
      have i2 : (j : Int) < ((n1 + n2 : Nat) : Int) := by omega
      have i3 : (j : Int) < (n1 : Int) + (n2 : Int) := by omega
      go_wp2
      refine region_start (S := Fin w'' n1 n2 ko mo mm to (.slice ao1 n1 co1) (.slice ao2 n2 co2) (.slice (some ⟨gb, 0, none⟩) (n1 + n2) cg) (.slice (some ⟨tb, 0, none⟩) (n1 + n2) ct) w4.heap.size w9.heap.size xg xt pg pt qo qm) (by kernel_rfl) HF.out.drew 10 rfl [false, false, false, false, false, false, false, false, false, false] rfl (fun hHeld => ?_)
      have HRG : Hid (∀ w', Fin w'' n1 n2 ko mo mm to (.slice ao1 n1 co1) (.slice ao2 n2 co2) (.slice (some ⟨gb, 0, none⟩) (n1 + n2) cg) (.slice (some ⟨tb, 0, none⟩) (n1 + n2) ct) w4.heap.size w9.heap.size xg xt pg pt qo qm w' → w'.rangeAt gb (j * 99) (cellC n1 ko mo mm to j (pg j)) ∧ w'.rangeAt tb (j * 99) (cellC n1 ko mo mm to j (pt j))) := fun w' h => by
        obtain ⟨gb', e1, r1⟩ := h.got.at hlt
        obtain ⟨tb', e2, r2⟩ := h.two.at hlt
        simp only [Option.some.injEq, Addr.mk.injEq] at e1 e2
        rw [e1.1, e2.1]; exact ⟨r1, r2⟩
      refine wpAnyH_take (i := 0) (v := .slice (some ⟨gb, 0, none⟩) (n1 + n2) cg) (at_list rfl) (by kernel_rfl) (by kernel_rfl) (by kernel_rfl) (fun _ _ _ h => h) (Or.inl ⟨by rfl, ?_⟩) hHeld ?_
      · intro w' _; go_simp
      simp only [Act.put, List.setIfInBounds_toArray, List.set_cons_zero, List.set_cons_succ]
      refine wpAnyH_take (i := 1) (v := .int .i64 j) (at_list rfl) (by kernel_rfl) (by kernel_rfl) (by kernel_rfl) (fun _ _ _ h => h) (Or.inl ⟨by rfl, ?_⟩) hHeld ?_
      · intro w' _; go_simp
      simp only [Act.put, List.setIfInBounds_toArray, List.set_cons_zero, List.set_cons_succ]
      refine wpAnyH_take (i := 2) (v := .pointer (some ⟨gb, j * 99, none⟩)) (at_list rfl) (by kernel_rfl) (by kernel_rfl) (by kernel_rfl) (fun _ _ _ h => h) (Or.inl ⟨by rfl, ?_⟩) hHeld ?_
      · intro w' _; go_simp
      simp only [Act.put, List.setIfInBounds_toArray, List.set_cons_zero, List.set_cons_succ]
      refine wpAnyH_take (i := 3) (v := .agg (cellC n1 ko mo mm to j (pg j)).toArray) (at_list rfl) (by kernel_rfl) (by kernel_rfl) (by kernel_rfl) (fun _ _ _ h => h)
        (yieldsIf_load_mid (by rfl) 73 _ rfl gb (j * 99) rfl (cellC n1 ko mo mm to j (pg j)) _ (fun w' hS' => (HRG.out w' hS').1) Trym.underlying73 rfl (by rw [cellC_len HOK1.out HOK2.out hlt]; kernel_rfl)) hHeld ?_
      simp only [Act.put, List.setIfInBounds_toArray, List.set_cons_zero, List.set_cons_succ]
      refine wpAnyH_take (i := 4) (v := .slice (some ⟨tb, 0, none⟩) (n1 + n2) ct) (at_list rfl) (by kernel_rfl) (by kernel_rfl) (by kernel_rfl) (fun _ _ _ h => h) (Or.inl ⟨by rfl, ?_⟩) hHeld ?_
      · intro w' _; go_simp
      simp only [Act.put, List.setIfInBounds_toArray, List.set_cons_zero, List.set_cons_succ]
      refine wpAnyH_take (i := 5) (v := .int .i64 j) (at_list rfl) (by kernel_rfl) (by kernel_rfl) (by kernel_rfl) (fun _ _ _ h => h) (Or.inl ⟨by rfl, ?_⟩) hHeld ?_
      · intro w' _; go_simp
      simp only [Act.put, List.setIfInBounds_toArray, List.set_cons_zero, List.set_cons_succ]
      refine wpAnyH_take (i := 6) (v := .pointer (some ⟨tb, j * 99, none⟩)) (at_list rfl) (by kernel_rfl) (by kernel_rfl) (by kernel_rfl) (fun _ _ _ h => h) (Or.inl ⟨by rfl, ?_⟩) hHeld ?_
      · intro w' _; go_simp
      simp only [Act.put, List.setIfInBounds_toArray, List.set_cons_zero, List.set_cons_succ]
      refine wpAnyH_take (i := 7) (v := .agg (cellC n1 ko mo mm to j (pt j)).toArray) (at_list rfl) (by kernel_rfl) (by kernel_rfl) (by kernel_rfl) (fun _ _ _ h => h)
        (yieldsIf_load_mid (by rfl) 73 _ rfl tb (j * 99) rfl (cellC n1 ko mo mm to j (pt j)) _ (fun w' hS' => (HRG.out w' hS').2) Trym.underlying73 rfl (by rw [cellC_len HOK1.out HOK2.out hlt]; kernel_rfl)) hHeld ?_
      simp only [Act.put, List.setIfInBounds_toArray, List.set_cons_zero, List.set_cons_succ]
      refine region_one (i := 8) rfl (by kernel_rfl) (by rfl) (fun K hK => ?_)
      simp only [List.set_cons_zero, List.set_cons_succ] at hK
      go_simp
      refine (sameC_any n1 ko mo mm to j (pg j) (pt j) _ (mg_ok HOK1.out HOK2.out hlt) (hHeld.got.2.2 j hlt) (hHeld.two.2.2 j hlt)).mono ?_
      rintro e wz ⟨rfl, hbz⟩
      refine hK.out _ _ (hHeld.up hbz) ?_
      replace hHeld := hHeld.up hbz
      clear hK K hbz HRG HF
      refine wpAnyH_take (i := 9) (v := .bool false) (at_list rfl) (by kernel_rfl) (by kernel_rfl) (by kernel_rfl) (fun _ _ _ h => h) (Or.inl ⟨by rfl, ?_⟩) hHeld ?_
      · intro w' _; go_simp
      simp only [Act.put, List.setIfInBounds_toArray, List.set_cons_zero, List.set_cons_succ]
      have HF : Hid (Fin w'' n1 n2 ko mo mm to (.slice ao1 n1 co1) (.slice ao2 n2 co2) (.slice (some ⟨gb, 0, none⟩) (n1 + n2) cg) (.slice (some ⟨tb, 0, none⟩) (n1 + n2) ct) w4.heap.size w9.heap.size xg xt pg pt qo qm wz) := hHeld
      clear hHeld
      refine wpAnyH_done (by kernel_rfl) ?_ _
      go_wp2
      go_roundw
      case rel => exact ⟨j + 1, by omega, by go_num, HF.out⟩
      case measure => simp [intOf]; omega
    · go_wp2
      go_loopw [23] (fun i wr => ∃ l : Nat, l ≤ n1 ∧ i = .int .i64 l ∧ Fin w'' n1 n2 ko mo mm to (.slice ao1 n1 co1) (.slice ao2 n2 co2) (.slice ag (n1 + n2) cg) (.slice at_ (n1 + n2) ct) w4.heap.size w9.heap.size xg xt pg pt qo qm wr) (fun i _ => n1 - (intOf i).toNat)
      case atStart => exact ⟨0, Nat.zero_le _, rfl, HF.out⟩
      case round =>
        obtain ⟨l, hl, rfl, hfin⟩ := hrel
        clear HF
        have HF : Hid (Fin w'' n1 n2 ko mo mm to (.slice ao1 n1 co1) (.slice ao2 n2 co2) (.slice ag (n1 + n2) cg) (.slice at_ (n1 + n2) ct) w4.heap.size w9.heap.size xg xt pg pt qo qm wr) := hfin
        clear hfin
        by_cases hlt2 : l < n1
        · obtain ⟨gb, rfl, _⟩ := HF.out.got.at (i := l) (by omega)
          obtain ⟨ob, rfl, _, _⟩ := HF.out.out.at hlt2
          have i1 : (0 : Int) ≤ (l : Int) := by omega
          have i2 : (l : Int) < (n1 : Int) := by omega
          have i3 : (l : Int) < (n1 : Int) + (n2 : Int) := by omega
          have hkk : (ko l != ko l) = false := by simp
          go_wp2
          refine region_start (S := Fin w'' n1 n2 ko mo mm to (.slice (some ⟨ob, 0, none⟩) n1 co1) (.slice ao2 n2 co2) (.slice (some ⟨gb, 0, none⟩) (n1 + n2) cg) (.slice at_ (n1 + n2) ct) w4.heap.size w9.heap.size xg xt pg pt qo qm) (by kernel_rfl) HF.out.drew 25 rfl [false, false, false, false, false, false, false, false, false, false, false, false, false, false, false, false, false, false, false, false, false, false, false, false, false] rfl (fun hHeld => ?_)
          have HRG : Hid (∀ w', Fin w'' n1 n2 ko mo mm to (.slice (some ⟨ob, 0, none⟩) n1 co1) (.slice ao2 n2 co2) (.slice (some ⟨gb, 0, none⟩) (n1 + n2) cg) (.slice at_ (n1 + n2) ct) w4.heap.size w9.heap.size xg xt pg pt qo qm w' → w'.cell? ⟨gb, l * 99, none⟩ = some (.int .u8 (ko l)) ∧ w'.rangeAt gb (l * 99 + 1) ((mo l).cells (pg l)) ∧ w'.cell? ⟨ob, l * 37, none⟩ = some (.int .u8 (ko l)) ∧ w'.rangeAt ob (l * 37 + 1) ((mo l).cells (qo l))) := fun w' h => by
            obtain ⟨gb', e1, r1⟩ := h.got.at (i := l) (by omega)
            obtain ⟨ob', e2, r2, _⟩ := h.out.at hlt2
            simp only [Option.some.injEq, Addr.mk.injEq] at e1 e2
            rw [e1.1, e2.1]
            rw [cellC_lt hlt2] at r1
            exact ⟨range_head r1, range_left (range_tail r1), range_head r2, range_tail r2⟩
          refine wpAnyH_take (i := 0) (v := .slice (some ⟨gb, 0, none⟩) (n1 + n2) cg) (at_list rfl) (by kernel_rfl) (by kernel_rfl) (by kernel_rfl) (fun _ _ _ h => h) (Or.inl ⟨by rfl, ?_⟩) hHeld ?_
          · intro w' _; go_simp
          simp only [Act.put, List.setIfInBounds_toArray, List.set_cons_zero, List.set_cons_succ]
          refine wpAnyH_take (i := 1) (v := .int .i64 l) (at_list rfl) (by kernel_rfl) (by kernel_rfl) (by kernel_rfl) (fun _ _ _ h => h) (Or.inl ⟨by rfl, ?_⟩) hHeld ?_
          · intro w' _; go_simp
          simp only [Act.put, List.setIfInBounds_toArray, List.set_cons_zero, List.set_cons_succ]
          refine wpAnyH_take (i := 2) (v := .pointer (some ⟨gb, l * 99, none⟩)) (at_list rfl) (by kernel_rfl) (by kernel_rfl) (by kernel_rfl) (fun _ _ _ h => h) (Or.inl ⟨by rfl, ?_⟩) hHeld ?_
          · intro w' _; go_simp
          simp only [Act.put, List.setIfInBounds_toArray, List.set_cons_zero, List.set_cons_succ]
          refine wpAnyH_take (i := 3) (v := .pointer (some ⟨gb, l * 99, none⟩)) (at_list rfl) (by kernel_rfl) (by kernel_rfl) (by kernel_rfl) (fun _ _ _ h => h) (Or.inl ⟨by rfl, ?_⟩) hHeld ?_
          · intro w' _; go_simp
          simp only [Act.put, List.setIfInBounds_toArray, List.set_cons_zero, List.set_cons_succ]
          refine wpAnyH_take (i := 4) (v := .int .u8 (ko l)) (at_list rfl) (by kernel_rfl) (by kernel_rfl) (by kernel_rfl) (fun _ _ _ h => h) (Or.inl ⟨by rfl, ?_⟩) hHeld ?_
          · intro w' hS'; have hc := (HRG.out w' hS').1; go_simp
          simp only [Act.put, List.setIfInBounds_toArray, List.set_cons_zero, List.set_cons_succ]
          refine wpAnyH_take (i := 5) (v := .slice (some ⟨ob, 0, none⟩) n1 co1) (at_list rfl) (by kernel_rfl) (by kernel_rfl) (by kernel_rfl) (fun _ _ _ h => h) (Or.inl ⟨by rfl, ?_⟩) hHeld ?_
          · intro w' _; go_simp
          simp only [Act.put, List.setIfInBounds_toArray, List.set_cons_zero, List.set_cons_succ]
          refine wpAnyH_take (i := 6) (v := .int .i64 l) (at_list rfl) (by kernel_rfl) (by kernel_rfl) (by kernel_rfl) (fun _ _ _ h => h) (Or.inl ⟨by rfl, ?_⟩) hHeld ?_
          · intro w' _; go_simp
          simp only [Act.put, List.setIfInBounds_toArray, List.set_cons_zero, List.set_cons_succ]
          refine wpAnyH_take (i := 7) (v := .pointer (some ⟨ob, l * 37, none⟩)) (at_list rfl) (by kernel_rfl) (by kernel_rfl) (by kernel_rfl) (fun _ _ _ h => h) (Or.inl ⟨by rfl, ?_⟩) hHeld ?_
          · intro w' _; go_simp
          simp only [Act.put, List.setIfInBounds_toArray, List.set_cons_zero, List.set_cons_succ]
          refine wpAnyH_take (i := 8) (v := .pointer (some ⟨ob, l * 37, none⟩)) (at_list rfl) (by kernel_rfl) (by kernel_rfl) (by kernel_rfl) (fun _ _ _ h => h) (Or.inl ⟨by rfl, ?_⟩) hHeld ?_
          · intro w' _; go_simp
          simp only [Act.put, List.setIfInBounds_toArray, List.set_cons_zero, List.set_cons_succ]
          refine wpAnyH_take (i := 9) (v := .int .u8 (ko l)) (at_list rfl) (by kernel_rfl) (by kernel_rfl) (by kernel_rfl) (fun _ _ _ h => h) (Or.inl ⟨by rfl, ?_⟩) hHeld ?_
          · intro w' hS'; have hc := (HRG.out w' hS').2.2.1; go_simp
          simp only [Act.put, List.setIfInBounds_toArray, List.set_cons_zero, List.set_cons_succ]
          refine wpAnyH_take (i := 10) (v := .bool false) (at_list rfl) (by kernel_rfl) (by kernel_rfl) (by kernel_rfl) (fun _ _ _ h => h) (Or.inl ⟨by rfl, ?_⟩) hHeld ?_
          · intro w' _; go_simp
          simp only [Act.put, List.setIfInBounds_toArray, List.set_cons_zero, List.set_cons_succ]
          refine wpAnyH_take (i := 11) (v := .bool false) (at_list rfl) (by kernel_rfl) (by kernel_rfl) (by kernel_rfl) (fun _ _ _ h => h) (Or.inl ⟨by rfl, ?_⟩) hHeld ?_
          · intro w' _; go_simp
          simp only [Act.put, List.setIfInBounds_toArray, List.set_cons_zero, List.set_cons_succ]
          refine wpAnyH_take (i := 12) (v := .slice (some ⟨gb, 0, none⟩) (n1 + n2) cg) (at_list rfl) (by kernel_rfl) (by kernel_rfl) (by kernel_rfl) (fun _ _ _ h => h) (Or.inl ⟨by rfl, ?_⟩) hHeld ?_
          · intro w' _; go_simp
          simp only [Act.put, List.setIfInBounds_toArray, List.set_cons_zero, List.set_cons_succ]
          refine wpAnyH_take (i := 13) (v := .int .i64 l) (at_list rfl) (by kernel_rfl) (by kernel_rfl) (by kernel_rfl) (fun _ _ _ h => h) (Or.inl ⟨by rfl, ?_⟩) hHeld ?_
          · intro w' _; go_simp
          simp only [Act.put, List.setIfInBounds_toArray, List.set_cons_zero, List.set_cons_succ]
          refine wpAnyH_take (i := 14) (v := .pointer (some ⟨gb, l * 99, none⟩)) (at_list rfl) (by kernel_rfl) (by kernel_rfl) (by kernel_rfl) (fun _ _ _ h => h) (Or.inl ⟨by rfl, ?_⟩) hHeld ?_
          · intro w' _; go_simp
          simp only [Act.put, List.setIfInBounds_toArray, List.set_cons_zero, List.set_cons_succ]
          refine wpAnyH_take (i := 15) (v := .pointer (some ⟨gb, l * 99 + 1, none⟩)) (at_list rfl) (by kernel_rfl) (by kernel_rfl) (by kernel_rfl) (fun _ _ _ h => h) (Or.inl ⟨by rfl, ?_⟩) hHeld ?_
          · intro w' _; go_simp
          simp only [Act.put, List.setIfInBounds_toArray, List.set_cons_zero, List.set_cons_succ]
          refine wpAnyH_take (i := 16) (v := .agg ((mo l).cells (pg l)).toArray) (at_list rfl) (by kernel_rfl) (by kernel_rfl) (by kernel_rfl) (fun _ _ _ h => h)
            (yieldsIf_load_mid (by rfl) 54 _ rfl gb (l * 99 + 1) rfl ((mo l).cells (pg l)) _ (fun w' hS' => (HRG.out w' hS').2.1) Trym.underlying54 rfl (by rw [Msg.len (HOK1.out l hlt2)]; kernel_rfl)) hHeld ?_
          simp only [Act.put, List.setIfInBounds_toArray, List.set_cons_zero, List.set_cons_succ]
          refine wpAnyH_take (i := 17) (v := .slice (some ⟨ob, 0, none⟩) n1 co1) (at_list rfl) (by kernel_rfl) (by kernel_rfl) (by kernel_rfl) (fun _ _ _ h => h) (Or.inl ⟨by rfl, ?_⟩) hHeld ?_
          · intro w' _; go_simp
          simp only [Act.put, List.setIfInBounds_toArray, List.set_cons_zero, List.set_cons_succ]
          refine wpAnyH_take (i := 18) (v := .int .i64 l) (at_list rfl) (by kernel_rfl) (by kernel_rfl) (by kernel_rfl) (fun _ _ _ h => h) (Or.inl ⟨by rfl, ?_⟩) hHeld ?_
          · intro w' _; go_simp
          simp only [Act.put, List.setIfInBounds_toArray, List.set_cons_zero, List.set_cons_succ]
          refine wpAnyH_take (i := 19) (v := .pointer (some ⟨ob, l * 37, none⟩)) (at_list rfl) (by kernel_rfl) (by kernel_rfl) (by kernel_rfl) (fun _ _ _ h => h) (Or.inl ⟨by rfl, ?_⟩) hHeld ?_
          · intro w' _; go_simp
          simp only [Act.put, List.setIfInBounds_toArray, List.set_cons_zero, List.set_cons_succ]
          refine wpAnyH_take (i := 20) (v := .pointer (some ⟨ob, l * 37 + 1, none⟩)) (at_list rfl) (by kernel_rfl) (by kernel_rfl) (by kernel_rfl) (fun _ _ _ h => h) (Or.inl ⟨by rfl, ?_⟩) hHeld ?_
          · intro w' _; go_simp
          simp only [Act.put, List.setIfInBounds_toArray, List.set_cons_zero, List.set_cons_succ]
          refine wpAnyH_take (i := 21) (v := .agg ((mo l).cells (qo l)).toArray) (at_list rfl) (by kernel_rfl) (by kernel_rfl) (by kernel_rfl) (fun _ _ _ h => h)
            (yieldsIf_load_mid (by rfl) 75 _ rfl ob (l * 37 + 1) rfl ((mo l).cells (qo l)) _ (fun w' hS' => (HRG.out w' hS').2.2.2) Trym.underlying75 rfl (by rw [Msg.len (HOK1.out l hlt2)]; kernel_rfl)) hHeld ?_
          simp only [Act.put, List.setIfInBounds_toArray, List.set_cons_zero, List.set_cons_succ]
          refine region_one (i := 22) rfl (by kernel_rfl) (by rfl) (fun K hK => ?_)
          simp only [List.set_cons_zero, List.set_cons_succ] at hK
          go_simp
          refine (isRB_any (mo l) (pg l) (qo l) _ (HOK1.out l hlt2) (by have := hHeld.got.2.2 l (by omega); simpa [mg, hlt2] using this) (by obtain ⟨_, _, _, hp⟩ := hHeld.out.at hlt2; exact hp)).mono ?_
          rintro e wz ⟨rfl, hbz⟩
          refine hK.out _ _ (hHeld.up hbz) ?_
          replace hHeld := hHeld.up hbz
          clear hK K hbz HRG HF
          refine wpAnyH_take (i := 23) (v := .bool false) (at_list rfl) (by kernel_rfl) (by kernel_rfl) (by kernel_rfl) (fun _ _ _ h => h) (Or.inl ⟨by rfl, ?_⟩) hHeld ?_
          · intro w' _; go_simp
          simp only [Act.put, List.setIfInBounds_toArray, List.set_cons_zero, List.set_cons_succ]
          refine wpAnyH_take (i := 24) (v := .bool false) (at_list rfl) (by kernel_rfl) (by kernel_rfl) (by kernel_rfl) (fun _ _ _ h => h) (Or.inl ⟨by rfl, ?_⟩) hHeld ?_
          · intro w' _; go_simp
          simp only [Act.put, List.setIfInBounds_toArray, List.set_cons_zero, List.set_cons_succ]
          have HF : Hid (Fin w'' n1 n2 ko mo mm to (.slice (some ⟨ob, 0, none⟩) n1 co1) (.slice ao2 n2 co2) (.slice (some ⟨gb, 0, none⟩) (n1 + n2) cg) (.slice at_ (n1 + n2) ct) w4.heap.size w9.heap.size xg xt pg pt qo qm wz) := hHeld
          clear hHeld
          refine wpAnyH_done (by kernel_rfl) ?_ _
          go_wp2
          go_roundw
          case rel => exact ⟨l + 1, by omega, by go_num, HF.out⟩
          case measure => simp [intOf]; omega
        · by_cases hk2 : kk < n2
          · have hidx : n1 + kk < n1 + n2 := by omega
            obtain ⟨gb, rfl, _⟩ := HF.out.got.at hidx
            obtain ⟨mb, rfl, _, _⟩ := HF.out.msg.at hk2
            have i1 : (0 : Int) ≤ (kk : Int) := by omega
            have i2 : (kk : Int) < (n2 : Int) := by omega
            obtain ⟨hz, _⟩ := zero_of_info (P := Trym.prog) (t := 73) (v := .agg (abCells 0 rb0 0 0).toArray) (n := 99) (by kernel_rfl)
            obtain ⟨z, hzz⟩ : ∃ z, z = (abCells 0 rb0 0 0).toArray := ⟨_, rfl⟩
            rw [← hzz] at hz
            have hzs : z.size = 99 := by rw [hzz]; decide +kernel
            have HZ : Hid (z.size = 99) := hzs
            clear hzs hzz
            have HRW : Hid (wr.rangeAt gb ((n1 + kk) * 99) (cellC n1 ko mo mm to (n1 + kk) (pg (n1 + kk)))) := by
              obtain ⟨gb', e1, r1⟩ := HF.out.got.at hidx
              simp only [Option.some.injEq, Addr.mk.injEq] at e1
              show wr.rangeAt gb ((n1 + kk) * 99) (cellC n1 ko mo mm to (n1 + kk) (pg (n1 + kk)))
              rw [e1.1]; exact r1
            have hlenC : (cellC n1 ko mo mm to (n1 + kk) (pg (n1 + kk))).length = 99 := cellC_len HOK1.out HOK2.out hidx _
            have HLC : Hid ((cellC n1 ko mo mm to (n1 + kk) (pg (n1 + kk))).length = 99) := hlenC
            have HPC : Hid (PayAt wr (pg (n1 + kk)) (mm kk).p) := by
              show PayAt wr (pg (n1 + kk)) (mm kk).p
              have := HF.out.got.2.2 (n1 + kk) hidx
              have e : ¬ n1 + kk < n1 := by omega
              simpa [mg, e] using this
            have HOC : Hid (∀ u ∈ cellC n1 ko mo mm to (n1 + kk) (pg (n1 + kk)), u.oneCell' = true) := by
              show ∀ u ∈ cellC n1 ko mo mm to (n1 + kk) (pg (n1 + kk)), u.oneCell' = true
              rw [cellC_ge]; exact ab_one (Msg.one HPC.out.reads)
            clear hlenC
            go_wp2_with (first | (refine wpList_load_mid rfl 73 (.tmp 186) rfl gb ((n1 + kk) * 99) rfl (cellC n1 ko mo mm to (n1 + kk) (pg (n1 + kk))) _ HRW.out Trym.underlying73 rfl (by rw [HLC.out]; kernel_rfl) ?_) | (refine wpList_store_row rfl 73 (.tmp 24) (.tmp 187) rfl wr.heap.size (cellC n1 ko mo mm to (n1 + kk) (pg (n1 + kk))).toArray rfl rfl 73 z (heap_alloc_new wr _) (by simp only [List.size_toArray]; rw [HLC.out]; kernel_rfl) (by simp only [List.size_toArray]; rw [HLC.out, HZ.out]) (all_oneCell_toArray HOC.out) ?_))
            rw [World.setRow_alloc_new]
            simp only [Act.put]
            have hRl : ((mm kk).cells (pg (n1 + kk))).length = 36 := Msg.len (HOK2.out kk hk2) _
            have HRL : Hid (((mm kk).cells (pg (n1 + kk))).length = 36) := hRl
            have hSt : FinG w'' n1 n2 ko mo mm to (.slice ao1 n1 co1) (.slice (some ⟨mb, 0, none⟩) n2 co2) (.slice (some ⟨gb, 0, none⟩) (n1 + n2) cg) (.slice at_ (n1 + n2) ct) w4.heap.size w9.heap.size xg xt pg pt qo qm wr.heap.size ((mm kk).cells (pg (n1 + kk))) (wr.alloc (.cells (cellC n1 ko mo mm to (n1 + kk) (pg (n1 + kk))).toArray 73)).drew :=
              ⟨(HF.out.up ((Below.refl _ _).alloc (Nat.le_refl _) _)).drew, by rw [cellC_ge]; exact heap_alloc_new wr _⟩
            have hto : (to != to) = false := by simp
            clear hRl HRW HLC HOC HPC HF
            refine region_start (S := FinG w'' n1 n2 ko mo mm to (.slice ao1 n1 co1) (.slice (some ⟨mb, 0, none⟩) n2 co2) (.slice (some ⟨gb, 0, none⟩) (n1 + n2) cg) (.slice at_ (n1 + n2) ct) w4.heap.size w9.heap.size xg xt pg pt qo qm wr.heap.size ((mm kk).cells (pg (n1 + kk)))) (by kernel_rfl) hSt 26 rfl [false, false, false, false, false, false, false, false, false, false, false, false, false, false, false, false, false, false, false, false, false, false, false, false, false, false] rfl (fun hHeld => ?_)
            clear hSt
            have HMR : Hid (∀ w', FinG w'' n1 n2 ko mo mm to (.slice ao1 n1 co1) (.slice (some ⟨mb, 0, none⟩) n2 co2) (.slice (some ⟨gb, 0, none⟩) (n1 + n2) cg) (.slice at_ (n1 + n2) ct) w4.heap.size w9.heap.size xg xt pg pt qo qm wr.heap.size ((mm kk).cells (pg (n1 + kk))) w' → w'.rangeAt mb (kk * 36) ((mm kk).cells (qm kk))) := fun w' h => by
              obtain ⟨mb', e1, r1, _⟩ := h.fin.msg.at hk2
              simp only [Option.some.injEq, Addr.mk.injEq] at e1
              rw [e1.1]; exact r1
            refine wpAnyH_take (i := 0) (v := .pointer (some ⟨wr.heap.size, 0, none⟩)) (at_list rfl) (by kernel_rfl) (by kernel_rfl) (by kernel_rfl) (fun _ _ _ h => h) (Or.inl ⟨by rfl, ?_⟩) hHeld ?_
            · intro w' _; go_simp
            simp only [Act.put, List.setIfInBounds_toArray, List.set_cons_zero, List.set_cons_succ]
            refine wpAnyH_take (i := 1) (v := .int .u8 9) (at_list rfl) (by kernel_rfl) (by kernel_rfl) (by kernel_rfl) (fun _ _ _ h => h) (Or.inl ⟨by rfl, ?_⟩) hHeld ?_
            · intro w' hS'; have hc := hS'.c0 HRL.out; go_simp
            simp only [Act.put, List.setIfInBounds_toArray, List.set_cons_zero, List.set_cons_succ]
            refine wpAnyH_take (i := 2) (v := .bool false) (at_list rfl) (by kernel_rfl) (by kernel_rfl) (by kernel_rfl) (fun _ _ _ h => h) (Or.inl ⟨by rfl, ?_⟩) hHeld ?_
            · intro w' _; go_simp
            simp only [Act.put, List.setIfInBounds_toArray, List.set_cons_zero, List.set_cons_succ]
            refine wpAnyH_take (i := 3) (v := .bool false) (at_list rfl) (by kernel_rfl) (by kernel_rfl) (by kernel_rfl) (fun _ _ _ h => h) (Or.inl ⟨by rfl, ?_⟩) hHeld ?_
            · intro w' _; go_simp
            simp only [Act.put, List.setIfInBounds_toArray, List.set_cons_zero, List.set_cons_succ]
            refine wpAnyH_take (i := 4) (v := .pointer (some ⟨wr.heap.size, 97, none⟩)) (at_list rfl) (by kernel_rfl) (by kernel_rfl) (by kernel_rfl) (fun _ _ _ h => h) (Or.inl ⟨by rfl, ?_⟩) hHeld ?_
            · intro w' _; go_simp
            simp only [Act.put, List.setIfInBounds_toArray, List.set_cons_zero, List.set_cons_succ]
            refine wpAnyH_take (i := 5) (v := .pointer (some ⟨wr.heap.size, 97, none⟩)) (at_list rfl) (by kernel_rfl) (by kernel_rfl) (by kernel_rfl) (fun _ _ _ h => h) (Or.inl ⟨by rfl, ?_⟩) hHeld ?_
            · intro w' _; go_simp
            simp only [Act.put, List.setIfInBounds_toArray, List.set_cons_zero, List.set_cons_succ]
            refine wpAnyH_take (i := 6) (v := .int .i64 to) (at_list rfl) (by kernel_rfl) (by kernel_rfl) (by kernel_rfl) (fun _ _ _ h => h) (Or.inl ⟨by rfl, ?_⟩) hHeld ?_
            · intro w' hS'; have hc := hS'.c97 HRL.out; go_simp
            simp only [Act.put, List.setIfInBounds_toArray, List.set_cons_zero, List.set_cons_succ]
            refine wpAnyH_take (i := 7) (v := .int .i64 to) (at_list rfl) (by kernel_rfl) (by kernel_rfl) (by kernel_rfl) (fun _ _ _ h => h) (Or.inl ⟨by rfl, ?_⟩) hHeld ?_
            · intro w' _; go_simp
            simp only [Act.put, List.setIfInBounds_toArray, List.set_cons_zero, List.set_cons_succ]
            refine wpAnyH_take (i := 8) (v := .bool false) (at_list rfl) (by kernel_rfl) (by kernel_rfl) (by kernel_rfl) (fun _ _ _ h => h) (Or.inl ⟨by rfl, ?_⟩) hHeld ?_
            · intro w' _; go_simp
            simp only [Act.put, List.setIfInBounds_toArray, List.set_cons_zero, List.set_cons_succ]
            refine wpAnyH_take (i := 9) (v := .bool false) (at_list rfl) (by kernel_rfl) (by kernel_rfl) (by kernel_rfl) (fun _ _ _ h => h) (Or.inl ⟨by rfl, ?_⟩) hHeld ?_
            · intro w' _; go_simp
            simp only [Act.put, List.setIfInBounds_toArray, List.set_cons_zero, List.set_cons_succ]
            refine wpAnyH_take (i := 10) (v := .bool false) (at_list rfl) (by kernel_rfl) (by kernel_rfl) (by kernel_rfl) (fun _ _ _ h => h) (Or.inl ⟨by rfl, ?_⟩) hHeld ?_
            · intro w' _; go_simp
            simp only [Act.put, List.setIfInBounds_toArray, List.set_cons_zero, List.set_cons_succ]
            refine wpAnyH_take (i := 11) (v := .pointer (some ⟨wr.heap.size, 97, none⟩)) (at_list rfl) (by kernel_rfl) (by kernel_rfl) (by kernel_rfl) (fun _ _ _ h => h) (Or.inl ⟨by rfl, ?_⟩) hHeld ?_
            · intro w' _; go_simp
            simp only [Act.put, List.setIfInBounds_toArray, List.set_cons_zero, List.set_cons_succ]
            refine wpAnyH_take (i := 12) (v := .pointer (some ⟨wr.heap.size, 98, none⟩)) (at_list rfl) (by kernel_rfl) (by kernel_rfl) (by kernel_rfl) (fun _ _ _ h => h) (Or.inl ⟨by rfl, ?_⟩) hHeld ?_
            · intro w' _; go_simp
            simp only [Act.put, List.setIfInBounds_toArray, List.set_cons_zero, List.set_cons_succ]
            refine wpAnyH_take (i := 13) (v := .int .u8 1) (at_list rfl) (by kernel_rfl) (by kernel_rfl) (by kernel_rfl) (fun _ _ _ h => h) (Or.inl ⟨by rfl, ?_⟩) hHeld ?_
            · intro w' hS'; have hc := hS'.c98 HRL.out; go_simp
            simp only [Act.put, List.setIfInBounds_toArray, List.set_cons_zero, List.set_cons_succ]
            refine wpAnyH_take (i := 14) (v := .bool false) (at_list rfl) (by kernel_rfl) (by kernel_rfl) (by kernel_rfl) (fun _ _ _ h => h) (Or.inl ⟨by rfl, ?_⟩) hHeld ?_
            · intro w' _; go_simp
            simp only [Act.put, List.setIfInBounds_toArray, List.set_cons_zero, List.set_cons_succ]
            refine wpAnyH_take (i := 15) (v := .bool false) (at_list rfl) (by kernel_rfl) (by kernel_rfl) (by kernel_rfl) (fun _ _ _ h => h) (Or.inl ⟨by rfl, ?_⟩) hHeld ?_
            · intro w' _; go_simp
            simp only [Act.put, List.setIfInBounds_toArray, List.set_cons_zero, List.set_cons_succ]
            refine wpAnyH_take (i := 16) (v := .bool false) (at_list rfl) (by kernel_rfl) (by kernel_rfl) (by kernel_rfl) (fun _ _ _ h => h) (Or.inl ⟨by rfl, ?_⟩) hHeld ?_
            · intro w' _; go_simp
            simp only [Act.put, List.setIfInBounds_toArray, List.set_cons_zero, List.set_cons_succ]
            refine wpAnyH_take (i := 17) (v := .pointer (some ⟨wr.heap.size, 1, none⟩)) (at_list rfl) (by kernel_rfl) (by kernel_rfl) (by kernel_rfl) (fun _ _ _ h => h) (Or.inl ⟨by rfl, ?_⟩) hHeld ?_
            · intro w' _; go_simp
            simp only [Act.put, List.setIfInBounds_toArray, List.set_cons_zero, List.set_cons_succ]
            refine wpAnyH_take (i := 18) (v := .agg ((mm kk).cells (pg (n1 + kk))).toArray) (at_list rfl) (by kernel_rfl) (by kernel_rfl) (by kernel_rfl) (fun _ _ _ h => h)
              (yieldsIf_load_mid (by rfl) 54 _ rfl wr.heap.size 1 rfl ((mm kk).cells (pg (n1 + kk))) _ (fun w' hS' => hS'.rb HRL.out) Trym.underlying54 rfl (by rw [HRL.out]; kernel_rfl)) hHeld ?_
            simp only [Act.put, List.setIfInBounds_toArray, List.set_cons_zero, List.set_cons_succ]
            refine wpAnyH_take (i := 19) (v := .slice (some ⟨mb, 0, none⟩) n2 co2) (at_list rfl) (by kernel_rfl) (by kernel_rfl) (by kernel_rfl) (fun _ _ _ h => h) (Or.inl ⟨by rfl, ?_⟩) hHeld ?_
            · intro w' _; go_simp
            simp only [Act.put, List.setIfInBounds_toArray, List.set_cons_zero, List.set_cons_succ]
            refine wpAnyH_take (i := 20) (v := .int .i64 kk) (at_list rfl) (by kernel_rfl) (by kernel_rfl) (by kernel_rfl) (fun _ _ _ h => h) (Or.inl ⟨by rfl, ?_⟩) hHeld ?_
            · intro w' _; go_simp
            simp only [Act.put, List.setIfInBounds_toArray, List.set_cons_zero, List.set_cons_succ]
            refine wpAnyH_take (i := 21) (v := .pointer (some ⟨mb, kk * 36, none⟩)) (at_list rfl) (by kernel_rfl) (by kernel_rfl) (by kernel_rfl) (fun _ _ _ h => h) (Or.inl ⟨by rfl, ?_⟩) hHeld ?_
            · intro w' _; go_simp
            simp only [Act.put, List.setIfInBounds_toArray, List.set_cons_zero, List.set_cons_succ]
            refine wpAnyH_take (i := 22) (v := .agg ((mm kk).cells (qm kk)).toArray) (at_list rfl) (by kernel_rfl) (by kernel_rfl) (by kernel_rfl) (fun _ _ _ h => h)
              (yieldsIf_load_mid (by rfl) 75 _ rfl mb (kk * 36) rfl ((mm kk).cells (qm kk)) _ (fun w' hS' => HMR.out w' hS') Trym.underlying75 rfl (by rw [Msg.len (HOK2.out kk hk2)]; kernel_rfl)) hHeld ?_
            simp only [Act.put, List.setIfInBounds_toArray, List.set_cons_zero, List.set_cons_succ]
            refine region_one (i := 23) rfl (by kernel_rfl) (by rfl) (fun K hK => ?_)
            simp only [List.set_cons_zero, List.set_cons_succ] at hK
            go_simp
            refine (isRB_any (mm kk) (pg (n1 + kk)) (qm kk) _ (HOK2.out kk hk2) (by simpa [mg_ge] using hHeld.fin.got.2.2 (n1 + kk) hidx) (by obtain ⟨_, _, _, hp⟩ := hHeld.fin.msg.at hk2; exact hp)).mono ?_
            rintro e wz ⟨rfl, hbz⟩
            refine hK.out _ _ (hHeld.up hbz) ?_
            replace hHeld := hHeld.up hbz
            clear hK K hbz HMR
            refine wpAnyH_take (i := 24) (v := .bool false) (at_list rfl) (by kernel_rfl) (by kernel_rfl) (by kernel_rfl) (fun _ _ _ h => h) (Or.inl ⟨by rfl, ?_⟩) hHeld ?_
            · intro w' _; go_simp
            simp only [Act.put, List.setIfInBounds_toArray, List.set_cons_zero, List.set_cons_succ]
            refine wpAnyH_take (i := 25) (v := .bool false) (at_list rfl) (by kernel_rfl) (by kernel_rfl) (by kernel_rfl) (fun _ _ _ h => h) (Or.inl ⟨by rfl, ?_⟩) hHeld ?_
            · intro w' _; go_simp
            simp only [Act.put, List.setIfInBounds_toArray, List.set_cons_zero, List.set_cons_succ]
            have HFB : Hid (Below w''.heap.size w'' wz) := hHeld.fin.old
            clear hHeld
            refine wpAnyH_done (by kernel_rfl) ?_ _
            go_wp2
            go_ret
            exact ⟨rfl, HFB.out⟩
          · go_wp2
            go_ret
            exact ⟨rfl, HF.out.old⟩
end Go.Proofs.Qxb6615968aMods.Cut
