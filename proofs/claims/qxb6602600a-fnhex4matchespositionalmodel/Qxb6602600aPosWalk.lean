/- The law FnHex4MatchesPositionalModel: its walk. -/
import Derived.Test.Qxb6602600aPos
namespace Go.Proofs.Qxb6602600a
open Go.RowKit
set_option linter.unusedVariables false

set_option maxHeartbeats 800000 in
theorem pos_walk (b off len cap : Nat) (c : Nat → Int) (w : World) (hl : 4 ≤ len) (hs : len ≤ 1048576) (hbw : b < w.heap.size)
    (hcell : ∀ j, j < len → w.cell? ⟨b, off + j, none⟩ = some (.int .u8 (c j))) (hb : ∀ j, 0 ≤ c j ∧ c j ≤ 255) :
    Calls Try.prog 4 #[.slice (some ⟨b, off, none⟩) len cap] w fun e w' => e = .returned (.bool true) ∧ Below w.heap.size w w' := by
  obtain ⟨i0, hi, hz0, hz1, hz2⟩ := info_parts PosInfo5
  have HC : Hid (∀ j, j < len → w.cell? ⟨b, off + j, none⟩ = some (.int .u8 (c j))) := hcell
  have HB : Hid (∀ j, 0 ≤ c j ∧ c j ≤ 255) := hb
  clear hcell hb
  go_enter Try.func4, Try.ntmps4
  go_wp2_with (first | (go_at_call 8; refine (zzBytesPos _ _ _ _ hs).mono ?_; rintro e w' ⟨rfl, rfl⟩) | (at_make; refine wpList_make_full _ rfl _ _ 24 rfl w.heap.size 5 i0 (.int .u8 0) 1 Try.underlying24 hi hz0 hz1 _ _ _ _ len rfl rfl (by omega) (by omega) ?b2 ?b3 (Nat.le_refl _) ?_))
  case b2 => rw [hz2]; omega
  case b3 => unfold maxLen; omega
  intro w0' hown0 hgrow0
  have hinv0 : CopyInv w w.heap.size 5 len c 0 w0' := CopyInv.start rfl hown0 hgrow0
  clear hown0 hgrow0
  go_wp2
  go_loopw [4] (fun i wr => ∃ k : Nat, k ≤ len ∧ i = .int .i64 k ∧ CopyInv w w.heap.size 5 len c k wr) (fun i _ => len - (intOf i).toNat)
  case atStart => exact ⟨0, by omega, rfl, hinv0⟩
  case round =>
    clear hinv0
    obtain ⟨k, hk, rfl, hinv⟩ := hrel
    by_cases hlt : k < len
    · have hg : wr.cell? ⟨b, off + k, none⟩ = some (.int .u8 (c k)) := (hinv.below.cell (by exact hbw)).trans (HC.out k hlt)
      obtain ⟨v0, hv0⟩ := hinv.old hlt
      have hf := hinv.free k
      go_wp2
      go_roundw
      case rel => exact ⟨k + 1, by omega, by go_num, hinv.step hlt⟩
      case measure => simp [intOf]; omega
    · have hkl : k = len := by omega
      subst hkl
      have hcs := hinv.cells
      have hbel := hinv.below
      have HCW : Hid (∀ j, j < k → wr.cell? ⟨w.heap.size, j, none⟩ = some (.int .u8 (c j))) := hcs
      clear hcs hinv HC
      go_wp2
      go_loop [5, 6] (fun l i => ∃ m : Nat, m ≤ 4 ∧ i = .int .i64 m ∧ l = .int .i64 (lastOf c m)) (fun _ i => 4 - (intOf i).toNat)
      case atStart => exact ⟨0, by omega, rfl, rfl⟩
      case round =>
        obtain ⟨m, hm, rfl, rfl⟩ := hrel
        by_cases hlt : m < 4
        · have hg := HCW.out m (by omega)
          have hbm := HB.out m
          have hdm := hexD_bd (c m)
          have HS : Hid (lastOf c (m + 1) = if hexD (c m) < 0 then (m : Int) else lastOf c m) := lastOf_succ c m
          by_cases hneg : hexD (c m) < 0
          all_goals
            go_wp2_with (go_at_call 7; refine (tableDigit_any (c m) hbm.1 hbm.2 _).mono ?_; rintro e w' ⟨rfl, rfl⟩)
            go_round
            case rel => exact ⟨m + 1, by omega, by go_num, by rw [HS.out]; first | rw [if_pos hneg] | rw [if_neg (by omega)]⟩
            case measure => simp [intOf]; omega
        · have hm4 : m = 4 := by omega
          subst hm4
          obtain ⟨L, hL⟩ : ∃ L, L = lastOf c 4 := ⟨_, rfl⟩
          have hLb := lastOf_bd c 4
          rw [← hL] at hLb
          have HL : Hid (L = lastOf c 4) := hL
          rw [← hL]
          clear hL
          go_wp2
          go_loop [7, 8, 9] (fun t p i => ∃ m : Nat, m ≤ 4 ∧ (m : Int) ≤ 3 - L ∧ i = .int .i64 (3 - (m : Int)) ∧ t = .int .i64 (tl c m) ∧ p = .int .i64 (pw m)) (fun _ _ i => (intOf i + 1).toNat)
          case atStart => exact ⟨0, by omega, by omega, rfl, rfl, rfl⟩
          case round =>
            obtain ⟨m, hm, hmL, rfl, rfl, rfl⟩ := hrel
            have b0 := hexD_bd (c 0)
            have b1 := hexD_bd (c 1)
            have b2 := hexD_bd (c 2)
            have b3 := hexD_bd (c 3)
            by_cases hlt : (m : Int) < 3 - L
            · have h : m = 0 ∨ m = 1 ∨ m = 2 ∨ m = 3 := by omega
              have c0 := HCW.out 0 (by omega)
              have c1 := HCW.out 1 (by omega)
              have c2 := HCW.out 2 (by omega)
              have c3 := HCW.out 3 (by omega)
              have q0 := HB.out 0
              have q1 := HB.out 1
              have q2 := HB.out 2
              have q3 := HB.out 3
              rcases h with rfl | rfl | rfl | rfl
              · rw [tl0, show pw 0 = 1 from rfl]
                go_wp2_with (go_at_call 7; refine (tableDigit_any (c 3) q3.1 q3.2 _).mono ?_; rintro e w' ⟨rfl, rfl⟩)
                go_round
                case rel => exact ⟨1, by omega, by omega, rfl, rfl, rfl⟩
                case measure => simp [intOf]
              · rw [tl1, show pw 1 = 16 from rfl]
                go_wp2_with (go_at_call 7; refine (tableDigit_any (c 2) q2.1 q2.2 _).mono ?_; rintro e w' ⟨rfl, rfl⟩)
                go_round
                case rel => exact ⟨2, by omega, by omega, rfl, rfl, rfl⟩
                case measure => simp [intOf]
              · rw [tl2, show pw 2 = 256 from rfl]
                go_wp2_with (go_at_call 7; refine (tableDigit_any (c 1) q1.1 q1.2 _).mono ?_; rintro e w' ⟨rfl, rfl⟩)
                go_round
                case rel => exact ⟨3, by omega, by omega, rfl, rfl, rfl⟩
                case measure => simp [intOf]
              · rw [tl3, show pw 3 = 4096 from rfl]
                go_wp2_with (go_at_call 7; refine (tableDigit_any (c 0) q0.1 q0.2 _).mono ?_; rintro e w' ⟨rfl, rfl⟩)
                go_round
                case rel => exact ⟨4, by omega, by omega, rfl, rfl, rfl⟩
                case measure => simp [intOf]
            · have HM : Hid (h4 c 4 = if 0 ≤ lastOf c 4 then tl c m - pw m else tl c m) := model c m (by rw [← HL.out]; omega)
              have hmL' : L = 3 - (m : Int) := by omega
              have ht := tl_bd c m
              have hp := pw_bd m
              have hh := h4_bd c 4 (by omega)
              have HC4 : Hid (∀ j, j < 4 → wr.cell? ⟨w.heap.size, 0 + j, none⟩ = some (.int .u8 (c j))) := by
                intro j hj; rw [Nat.zero_add]; exact HCW.out j (by omega)
              have hHL := HL.out
              rw [← hHL] at HM
              clear hHL HL hmL'
              by_cases hL0 : 0 ≤ L
              all_goals
                go_wp2_with (go_at_call 9; refine (zzHex4_any w.heap.size 0 _ _ c _ (by omega) (by omega) (by unfold maxLen; omega) HC4.out HB.out).mono ?_; rintro e w' ⟨rfl, rfl⟩)
                go_ret
                refine ⟨?_, hbel⟩
                have hm2 := HM.out
                first | rw [if_pos hL0] at hm2 | rw [if_neg (by omega)] at hm2
                rw [hm2]
                simp
end Go.Proofs.Qxb6602600a
