/-
  fitsBytes (12), zzBytes (11): the size guards.
-/
import Derived.Test.Qxb6615968aModsOuts
namespace Go.Proofs.Qxb6615968aMods.Cut
open Go Go.RowKit

/-- A slice whose element i holds a '[]byte' of length 'L i' at place 'q' of its 'sz' cells. -/
def Lens (w : World) (v : Value) (n sz q : Nat) (L : Nat → Nat) : Prop :=
  ∃ ao c, v = .slice ao n c ∧ ∀ i, i < n → ∃ b o pa pc, ao = some ⟨b, o, none⟩ ∧ w.cell? ⟨b, o + i * sz + q, none⟩ = some (.slice pa (L i) pc)

theorem SrcRB.lens {w : World} {v : Value} {n : Nat} {ms : Nat → Msg} {vs : Nat → Value} (h : SrcRB w v n ms vs) : Lens w v n 36 3 (fun i => (ms i).p.length) := by
  rcases h with ⟨rfl, rfl⟩ | ⟨a, cap, rfl, hs, hc⟩
  · exact ⟨none, 0, rfl, fun i hi => absurd hi (Nat.not_lt_zero _)⟩
  · refine ⟨some a, cap, rfl, fun i hi => ?_⟩
    obtain ⟨hr, hp⟩ := hc i hi
    obtain ⟨pa, pc, hv⟩ := hp.slice
    refine ⟨a.block, a.off, pa, pc, ?_, ?_⟩
    · rw [← hs (by omega)]
    · rw [← hv]; exact hr 3 _ (by simp [Msg.cells])
theorem SrcOut.lens {w : World} {v : Value} {n : Nat} {ko : Nat → Int} {ms : Nat → Msg} {vs : Nat → Value} (h : SrcOut w v n ko ms vs) : Lens w v n 37 4 (fun i => (ms i).p.length) := by
  rcases h with ⟨rfl, rfl⟩ | ⟨a, cap, rfl, hs, hc⟩
  · exact ⟨none, 0, rfl, fun i hi => absurd hi (Nat.not_lt_zero _)⟩
  · refine ⟨some a, cap, rfl, fun i hi => ?_⟩
    obtain ⟨hr, hp⟩ := hc i hi
    obtain ⟨pa, pc, hv⟩ := hp.slice
    refine ⟨a.block, a.off, pa, pc, ?_, ?_⟩
    · rw [← hs (by omega)]
    · rw [← hv]; exact hr 4 _ (by simp [elOut, Msg.cells])

/-- A guard's answer: some bool; if it is yes, 'p' holds. -/
def Answers (p : Prop) (w : World) (e : Ending) (w' : World) : Prop := ∃ r : Bool, e = .returned (.bool r) ∧ w' = w ∧ (r = true → p)
theorem Answers.no {p : Prop} {w : World} {e : Ending} (h : e = .returned (.bool false)) : Answers p w e w := ⟨false, h, rfl, fun h => by cases h⟩
theorem Answers.yes {p : Prop} {w : World} {e : Ending} (h : e = .returned (.bool true)) (hp : p) : Answers p w e w := ⟨true, h, rfl, fun _ => hp⟩

set_option maxHeartbeats 1600000 in
set_option maxRecDepth 100000 in
theorem fits_any (ao : Option Addr) (lo co : Nat) (v1 v2 : Value) (n1 n2 : Nat) (L1 L2 : Nat → Nat) (w : World) (h1 : Lens w v1 n1 37 4 L1) (h2 : Lens w v2 n2 36 3 L2) :
    Calls Trym.prog 12 #[.slice ao lo co, v1, v2] w
      (Answers (lo ≤ 65536 ∧ n1 ≤ 16384 ∧ n2 ≤ 16384 ∧ (∀ i, i < n1 → L1 i ≤ 1048576) ∧ ∀ i, i < n2 → L2 i ≤ 1048576) w) := by
  obtain ⟨a1, c1, rfl, hc1⟩ := h1
  obtain ⟨a2, c2, rfl, hc2⟩ := h2
  have H1 : Hid (∀ i, i < n1 → ∃ b o pa pc, a1 = some ⟨b, o, none⟩ ∧ w.cell? ⟨b, o + i * 37 + 4, none⟩ = some (.slice pa (L1 i) pc)) := hc1
  have H2 : Hid (∀ i, i < n2 → ∃ b o pa pc, a2 = some ⟨b, o, none⟩ ∧ w.cell? ⟨b, o + i * 36 + 3, none⟩ = some (.slice pa (L2 i) pc)) := hc2
  clear hc1 hc2
  by_cases g1 : 65536 < lo
  · go_enter Trym.func12, Trym.ntmps12
    go_wp2
    go_ret
    exact Answers.no rfl
  by_cases g2 : 16384 < n1
  · go_enter Trym.func12, Trym.ntmps12
    go_wp2
    go_ret
    exact Answers.no rfl
  by_cases g3 : 16384 < n2
  · go_enter Trym.func12, Trym.ntmps12
    go_wp2
    go_ret
    exact Answers.no rfl
  by_cases g4 : 1048576 < lo + 64 * n1 + 64 * n2
  · go_enter Trym.func12, Trym.ntmps12
    go_wp2
    go_ret
    exact Answers.no rfl
  go_enter Trym.func12, Trym.ntmps12
  go_wp2
  go_loop [7, 8] (fun t i => ∃ (k : Nat) (T : Int), k ≤ n1 ∧ i = .int .i64 k ∧ t = .int .i64 T ∧ 0 ≤ T ∧ T ≤ 1048576 ∧ ∀ j, j < k → L1 j ≤ 1048576) (fun _ i => n1 - (intOf i).toNat)
  case atStart => exact ⟨0, _, Nat.zero_le _, rfl, rfl, by omega, by omega, fun j hj => absurd hj (Nat.not_lt_zero _)⟩
  case round =>
    obtain ⟨k, T, hk, rfl, rfl, hT0, hT1, hj⟩ := hrel
    have HJ : Hid (∀ j, j < k → L1 j ≤ 1048576) := hj
    clear hj
    by_cases hlt : k < n1
    · obtain ⟨b, o, pa, pc, rfl, hcell⟩ := H1.out k hlt
      by_cases hl : 1048576 < L1 k
      · go_wp2
        go_ret
        exact Answers.no rfl
      by_cases hl2 : 1048576 < T + (L1 k : Int)
      · go_wp2
        go_ret
        exact Answers.no rfl
      · go_wp2
        go_round
        case rel => exact ⟨k + 1, _, by omega, by go_num, rfl, by omega, by omega, fun j hj => by
          by_cases e : j = k
          · subst e; omega
          · exact HJ.out j (by omega)⟩
        case measure => simp [intOf]; omega
    · have hk1 : k = n1 := by omega
      subst hk1
      go_wp2
      go_loop [7, 10] (fun t i => ∃ (k : Nat) (T : Int), k ≤ n2 ∧ i = .int .i64 k ∧ t = .int .i64 T ∧ 0 ≤ T ∧ T ≤ 1048576 ∧ ∀ j, j < k → L2 j ≤ 1048576) (fun _ i => n2 - (intOf i).toNat)
      case atStart => exact ⟨0, _, Nat.zero_le _, rfl, rfl, by omega, by omega, fun j hj => absurd hj (Nat.not_lt_zero _)⟩
      case round =>
        obtain ⟨k2, T2, hk2, rfl, rfl, hT20, hT21, hj2⟩ := hrel
        have HJ2 : Hid (∀ j, j < k2 → L2 j ≤ 1048576) := hj2
        clear hj2
        by_cases hlt2 : k2 < n2
        · obtain ⟨b, o, pa, pc, rfl, hcell⟩ := H2.out k2 hlt2
          by_cases hl : 1048576 < L2 k2
          · go_wp2
            go_ret
            exact Answers.no rfl
          by_cases hl2 : 1048576 < T2 + (L2 k2 : Int)
          · go_wp2
            go_ret
            exact Answers.no rfl
          · go_wp2
            go_round
            case rel => exact ⟨k2 + 1, _, by omega, by go_num, rfl, by omega, by omega, fun j hj => by
              by_cases e : j = k2
              · subst e; omega
              · exact HJ2.out j (by omega)⟩
            case measure => simp [intOf]; omega
        · have hk2' : k2 = n2 := by omega
          subst hk2'
          go_wp2
          go_ret
          exact Answers.yes rfl ⟨by omega, by omega, by omega, HJ.out, HJ2.out⟩

set_option maxHeartbeats 3200000 in
set_option maxRecDepth 100000 in
theorem bytes_any (n to k : Int) (ew : Bool) (ao : Option Addr) (lo co : Nat) (v1 v2 : Value) (n1 n2 : Nat) (L1 L2 : Nat → Nat) (w : World) (h1 : Lens w v1 n1 37 4 L1) (h2 : Lens w v2 n2 36 3 L2) :
    Calls Trym.prog 11 #[.int .i64 n, .int .i64 to, .bool ew, .slice ao lo co, v1, v2, .int .i64 k] w (Answers True w) := by
  obtain ⟨a1, c1, rfl, hc1⟩ := h1
  obtain ⟨a2, c2, rfl, hc2⟩ := h2
  have H1 : Hid (∀ i, i < n1 → ∃ b o pa pc, a1 = some ⟨b, o, none⟩ ∧ w.cell? ⟨b, o + i * 37 + 4, none⟩ = some (.slice pa (L1 i) pc)) := hc1
  have H2 : Hid (∀ i, i < n2 → ∃ b o pa pc, a2 = some ⟨b, o, none⟩ ∧ w.cell? ⟨b, o + i * 36 + 3, none⟩ = some (.slice pa (L2 i) pc)) := hc2
  clear hc1 hc2
  by_cases g1 : 1048576 < lo
  · go_enter Trym.func11, Trym.ntmps11
    go_wp2
    go_ret
    exact Answers.no rfl
  by_cases g2 : 1048576 < n1
  · go_enter Trym.func11, Trym.ntmps11
    go_wp2
    go_ret
    exact Answers.no rfl
  by_cases g3 : 1048576 < lo + n1
  · go_enter Trym.func11, Trym.ntmps11
    go_wp2
    go_ret
    exact Answers.no rfl
  by_cases g4 : 1048576 < n2
  · go_enter Trym.func11, Trym.ntmps11
    go_wp2
    go_loop [15, 16] (fun t i => ∃ (k1 : Nat) (T1 : Int), k1 ≤ n1 ∧ i = .int .i64 k1 ∧ t = .int .i64 T1 ∧ 0 ≤ T1 ∧ T1 ≤ 1048576) (fun _ i => n1 - (intOf i).toNat)
    case atStart => exact ⟨0, _, Nat.zero_le _, rfl, rfl, by omega, by omega⟩
    case round =>
      obtain ⟨k1, T1, hk1, rfl, rfl, hT10, hT11⟩ := hrel
      by_cases hltk1 : k1 < n1
      · obtain ⟨b, o, pa, pc, rfl, hcell⟩ := H1.out k1 hltk1
        by_cases hl : 1048576 < L1 k1
        · go_wp2
          go_ret
          exact Answers.no rfl
        by_cases hl2 : 1048576 < T1 + (L1 k1 : Int)
        · go_wp2
          go_ret
          exact Answers.no rfl
        by_cases hl3 : 1048576 < T1 + (L1 k1 : Int) + 32
        · go_wp2
          go_ret
          exact Answers.no rfl
        · go_wp2
          go_round
          case rel => exact ⟨k1 + 1, _, by omega, by go_num, rfl, by omega, by omega⟩
          case measure => simp [intOf]; omega
      · have hk' : k1 = n1 := by omega
        subst hk'
        go_wp2
        go_ret
        exact Answers.no rfl

  go_enter Trym.func11, Trym.ntmps11
  go_wp2
  go_loop [15, 16] (fun t i => ∃ (k1 : Nat) (T1 : Int), k1 ≤ n1 ∧ i = .int .i64 k1 ∧ t = .int .i64 T1 ∧ 0 ≤ T1 ∧ T1 ≤ 1048576) (fun _ i => n1 - (intOf i).toNat)
  case atStart => exact ⟨0, _, Nat.zero_le _, rfl, rfl, by omega, by omega⟩
  case round =>
    obtain ⟨k1, T1, hk1, rfl, rfl, hT10, hT11⟩ := hrel
    by_cases hltk1 : k1 < n1
    · obtain ⟨b, o, pa, pc, rfl, hcell⟩ := H1.out k1 hltk1
      by_cases hl : 1048576 < L1 k1
      · go_wp2
        go_ret
        exact Answers.no rfl
      by_cases hl2 : 1048576 < T1 + (L1 k1 : Int)
      · go_wp2
        go_ret
        exact Answers.no rfl
      by_cases hl3 : 1048576 < T1 + (L1 k1 : Int) + 32
      · go_wp2
        go_ret
        exact Answers.no rfl
      · go_wp2
        go_round
        case rel => exact ⟨k1 + 1, _, by omega, by go_num, rfl, by omega, by omega⟩
        case measure => simp [intOf]; omega
    · have hk' : k1 = n1 := by omega
      subst hk'
      by_cases g5 : 1048576 < T1 + (n2 : Int)
      · go_wp2
        go_ret
        exact Answers.no rfl
      go_wp2
      go_loop [15, 17] (fun t i => ∃ (k2 : Nat) (T2 : Int), k2 ≤ n2 ∧ i = .int .i64 k2 ∧ t = .int .i64 T2 ∧ 0 ≤ T2 ∧ T2 ≤ 1048576) (fun _ i => n2 - (intOf i).toNat)
      case atStart => exact ⟨0, _, Nat.zero_le _, rfl, rfl, by omega, by omega⟩
      case round =>
        obtain ⟨k2, T2, hk2, rfl, rfl, hT20, hT21⟩ := hrel
        by_cases hltk2 : k2 < n2
        · obtain ⟨b, o, pa, pc, rfl, hcell⟩ := H2.out k2 hltk2
          by_cases hl : 1048576 < L2 k2
          · go_wp2
            go_ret
            exact Answers.no rfl
          by_cases hl2 : 1048576 < T2 + (L2 k2 : Int)
          · go_wp2
            go_ret
            exact Answers.no rfl
          by_cases hl3 : 1048576 < T2 + (L2 k2 : Int) + 32
          · go_wp2
            go_ret
            exact Answers.no rfl
          · go_wp2
            go_round
            case rel => exact ⟨k2 + 1, _, by omega, by go_num, rfl, by omega, by omega⟩
            case measure => simp [intOf]; omega
        · have hk' : k2 = n2 := by omega
          subst hk'
          go_wp2
          go_ret
          exact Answers.yes rfl trivial
end Go.Proofs.Qxb6615968aMods.Cut
