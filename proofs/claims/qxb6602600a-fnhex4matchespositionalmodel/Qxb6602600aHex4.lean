/- hex4 by its contract. -/
import Derived.Test.Qxb6602600aHex
import Derived.Laws.BitsLemmas
namespace Go.Proofs.Qxb6602600a
open Go.RowKit
set_option linter.unusedVariables false

/-- What hex4 has gathered behind k bytes. -/
def h4 (c : Nat → Int) : Nat → Int
  | 0 => 0
  | k + 1 => if hexD (c k) < 0 then -1 else h4 c k * 16 + hexD (c k)
theorem h4_succ (c : Nat → Int) (k : Nat) : h4 c (k + 1) = if hexD (c k) < 0 then -1 else h4 c k * 16 + hexD (c k) := rfl
theorem h4_bd (c : Nat → Int) (k : Nat) (hk : k ≤ 4) : -4096 ≤ h4 c k ∧ h4 c k ≤ 65535 ∧ (k < 4 → -256 ≤ h4 c k ∧ h4 c k ≤ 4095) := by
  have b0 := hexD_bd (c 0)
  have b1 := hexD_bd (c 1)
  have b2 := hexD_bd (c 2)
  have b3 := hexD_bd (c 3)
  have e0 : h4 c 0 = 0 := rfl
  have e1 := h4_succ c 0
  have e2 := h4_succ c 1
  have e3 := h4_succ c 2
  have e4 := h4_succ c 3
  simp only [Nat.zero_add, Nat.reduceAdd] at e1 e2 e3 e4
  have h : k = 0 ∨ k = 1 ∨ k = 2 ∨ k = 3 ∨ k = 4 := by omega
  rcases h with rfl | rfl | rfl | rfl | rfl <;> split at e1 <;> split at e2 <;> split at e3 <;> split at e4 <;> omega

/-- 'x | d' on 32 bits, x a multiple of 16, d a digit or -1. -/
theorem or_digit (x d : Int) (hx : x % 16 = 0) (hlo : -2147483648 ≤ x) (hhi : x < 2147483648) (h0 : -1 ≤ d) (h1 : d ≤ 15) :
    bits .or .i32 x d = if d < 0 then -1 else x + d := by
  by_cases hd : d < 0
  · have : d = -1 := by omega
    subst this
    rw [if_pos hd]
    have e : BitVec.ofInt 32 (-1) = BitVec.allOnes 32 := by decide
    show IntKind.i32.wrap ((BitVec.ofInt 32 x ||| BitVec.ofInt 32 (-1)).toNat) = -1
    rw [e, BitVec.or_allOnes]
    decide
  · rw [if_neg hd]
    obtain ⟨n, rfl⟩ := Int.eq_ofNat_of_zero_le (show 0 ≤ d by omega)
    show IntKind.i32.wrap ((BitVec.ofInt 32 x ||| BitVec.ofInt 32 (n : Int)).toNat) = x + n
    have en : (BitVec.ofInt 32 (n : Int)).toNat = n := by simp [BitVec.ofInt_natCast]; omega
    have ex : ((BitVec.ofInt 32 x).toNat : Int) = x % 4294967296 := by
      rw [BitVec.toNat_ofInt]
      have : (0 : Int) ≤ x % ((2 ^ 32 : Nat) : Int) := Int.emod_nonneg _ (by decide)
      rw [Int.toNat_of_nonneg this]
      rfl
    have hm : (BitVec.ofInt 32 x).toNat % 16 = 0 := by omega
    rw [BitVec.toNat_or, en]
    have hj : (BitVec.ofInt 32 x).toNat ||| n = (BitVec.ofInt 32 x).toNat + n := by
      have hq : (BitVec.ofInt 32 x).toNat = 2 ^ 4 * ((BitVec.ofInt 32 x).toNat / 2 ^ 4) := by
        have := Nat.div_add_mod (BitVec.ofInt 32 x).toNat (2 ^ 4)
        omega
      rw [hq, ← Nat.two_pow_add_eq_or_of_lt (by omega) ((BitVec.ofInt 32 x).toNat / 2 ^ 4)]
    rw [hj, IntKind.wrap_i32]
    omega

theorem hex4_any (b off len cap : Nat) (c : Nat → Int) (w : World) (hl : 4 ≤ len) (hc : len ≤ cap) (hm : cap ≤ maxLen)
    (hcell : ∀ j, j < 4 → w.cell? ⟨b, off + j, none⟩ = some (.int .u8 (c j))) (hb : ∀ j, 0 ≤ c j ∧ c j ≤ 255) :
    Calls Try.prog 12 #[.slice (some ⟨b, off, none⟩) len cap] w fun e w' => e = .returned (.int .i32 (h4 c 4)) ∧ w = w' := by
  unfold maxLen at hm
  go_enter Try.func12, Try.ntmps12
  go_wp2
  go_loop [3, 9] (fun v i => ∃ k : Nat, k ≤ 4 ∧ i = .int .i64 k ∧ v = .int .i32 (h4 c k)) (fun _ i => 4 - (intOf i).toNat)
  case atStart => exact ⟨0, by omega, rfl, rfl⟩
  case round =>
    obtain ⟨k, hk, rfl, rfl⟩ := hrel
    have hv := h4_bd c k hk
    by_cases hlt : k < 4
    · have hk0 := hb k
      have hg := hcell k hlt
      have hv2 := hv.2.2 hlt
      have hdb := hexD_bd (c k)
      have HS : Hid (h4 c (k + 1) = if hexD (c k) < 0 then -1 else h4 c k * 16 + hexD (c k)) := h4_succ c k
      clear hv hcell hb
      go_wp2_with (go_at_call 11; refine (hexDigit_any (c k) hk0.1 hk0.2 _).mono ?_; rintro e w' ⟨rfl, rfl⟩)
      have ho := or_digit (h4 c k * 16) (hexD (c k)) (by omega) (by omega) (by omega) hdb.1 hdb.2
      go_round
      case rel => exact ⟨k + 1, by omega, by go_num, by rw [HS.out, ho]⟩
      case measure => simp [intOf]; omega
    · have : k = 4 := by omega
      subst this
      go_wp2
      go_ret
      exact ⟨rfl, rfl⟩

theorem zzHex4_any (b off len cap : Nat) (c : Nat → Int) (w : World) (hl : 4 ≤ len) (hc : len ≤ cap) (hm : cap ≤ maxLen)
    (hcell : ∀ j, j < 4 → w.cell? ⟨b, off + j, none⟩ = some (.int .u8 (c j))) (hb : ∀ j, 0 ≤ c j ∧ c j ≤ 255) :
    Calls Try.prog 9 #[.slice (some ⟨b, off, none⟩) len cap] w fun e w' => e = .returned (.int .i32 (h4 c 4)) ∧ w = w' := by
  have H : Hid (∀ j, j < 4 → w.cell? ⟨b, off + j, none⟩ = some (.int .u8 (c j))) := hcell
  have H2 : Hid (∀ j, 0 ≤ c j ∧ c j ≤ 255) := hb
  clear hcell hb
  go_enter Try.func9, Try.ntmps9
  go_wp2_with (go_at_call 12; refine (hex4_any b off len cap c _ hl hc hm H.out H2.out).mono ?_; rintro e w' ⟨rfl, rfl⟩)
  go_ret
  exact ⟨rfl, rfl⟩
end Go.Proofs.Qxb6602600a
