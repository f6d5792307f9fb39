/- The two digit readers, each by its contract. -/
import Derived.Test.Qxb6602600aRows
import Derived.WalkKit
import Derived.WalkSpells
import Derived.ProofKit
namespace Go.Proofs.Qxb6602600a
open Go.RowKit
set_option linter.unusedVariables false

theorem ret_int {k : IntKind} {a b : Int} (h : a = b) : Ending.returned (.int k a) = .returned (.int k b) := by rw [h]

/-- The value of a hexadecimal digit, -1 where the byte is none. -/
def hexD (c : Int) : Int :=
  if 48 ≤ c ∧ c ≤ 57 then c - 48 else if 97 ≤ c ∧ c ≤ 102 then c - 87 else if 65 ≤ c ∧ c ≤ 70 then c - 55 else -1
theorem hexD_bd (c : Int) : -1 ≤ hexD c ∧ hexD c ≤ 15 := by unfold hexD; omega

theorem low_at : ∀ (k : Nat) (h : k < 16), ((({ data := #[48, 49, 50, 51, 52, 53, 54, 55, 56, 57, 97, 98, 99, 100, 101, 102] } : ByteArray)[k]'h).toNat : Int) = if k < 10 then 48 + (k : Int) else 87 + (k : Int) := by decide
theorem up_at : ∀ (k : Nat) (h : k < 16), ((({ data := #[48, 49, 50, 51, 52, 53, 54, 55, 56, 57, 65, 66, 67, 68, 69, 70] } : ByteArray)[k]'h).toNat : Int) = if k < 10 then 48 + (k : Int) else 55 + (k : Int) := by decide
theorem low_hit {c : Int} {k : Nat} (h : k < 16) (e : ((({ data := #[48, 49, 50, 51, 52, 53, 54, 55, 56, 57, 97, 98, 99, 100, 101, 102] } : ByteArray)[k]'h).toNat : Int) = c) : (k : Int) = hexD c := by
  rw [low_at k h] at e; unfold hexD; split at e <;> omega
theorem up_hit {c : Int} {k : Nat} (h : k < 16) (e : ((({ data := #[48, 49, 50, 51, 52, 53, 54, 55, 56, 57, 65, 66, 67, 68, 69, 70] } : ByteArray)[k]'h).toNat : Int) = c) : (k : Int) = hexD c := by
  rw [up_at k h] at e; unfold hexD; split at e <;> omega
theorem or_hit {c : Int} {k : Nat} (h : k < 16) (n : ¬ ((({ data := #[48, 49, 50, 51, 52, 53, 54, 55, 56, 57, 97, 98, 99, 100, 101, 102] } : ByteArray)[k]'h).toNat : Int) = c)
    (e : ((((({ data := #[48, 49, 50, 51, 52, 53, 54, 55, 56, 57, 97, 98, 99, 100, 101, 102] } : ByteArray)[k]'h).toNat : Int) == c) = true ∨ ((({ data := #[48, 49, 50, 51, 52, 53, 54, 55, 56, 57, 65, 66, 67, 68, 69, 70] } : ByteArray)[k]'h).toNat == c) = true)) : (k : Int) = hexD c := by
  rcases e with e | e
  · exact absurd (by simpa using e) n
  · exact up_hit h (by simpa using e)
theorem both_miss {c : Int} {k : Nat} (h : k < 16) (hd : 0 ≤ hexD c → (k : Int) ≤ hexD c)
    (e : ((((({ data := #[48, 49, 50, 51, 52, 53, 54, 55, 56, 57, 97, 98, 99, 100, 101, 102] } : ByteArray)[k]'h).toNat : Int) == c) = false ∧ ((({ data := #[48, 49, 50, 51, 52, 53, 54, 55, 56, 57, 65, 66, 67, 68, 69, 70] } : ByteArray)[k]'h).toNat == c) = false)) : 0 ≤ hexD c → ((k + 1 : Nat) : Int) ≤ hexD c := by
  intro hp
  obtain ⟨e1, e2⟩ := e
  rw [low_at k h] at e1
  rw [up_at k h] at e2
  have e1' : ¬ ((if k < 10 then 48 + (k : Int) else 87 + (k : Int)) = c) := by simpa using e1
  have e2' : ¬ ((if k < 10 then 48 + (k : Int) else 55 + (k : Int)) = c) := by simpa using e2
  have h1 := hd hp
  have hne : (k : Int) ≠ hexD c := by
    intro e
    revert hp e
    unfold hexD
    by_cases h10 : k < 10
    · rw [if_pos h10] at e1' e2'; omega
    · rw [if_neg h10] at e1' e2'; omega
  omega

theorem hexDigit_any (c : Int) (h0 : 0 ≤ c) (h1 : c ≤ 255) (w : World) :
    Calls Try.prog 11 #[.int .u8 c] w fun e w' => e = .returned (.int .i64 (hexD c)) ∧ w = w' := by
  rcases (show (48 ≤ c ∧ c ≤ 57) ∨ (97 ≤ c ∧ c ≤ 102) ∨ (65 ≤ c ∧ c ≤ 70) ∨ (c < 48) ∨ (57 < c ∧ c < 65) ∨ (70 < c ∧ c < 97) ∨ 102 < c from by omega) with h | h | h | h | h | h | h
  all_goals
    go_enter Try.func11, Try.ntmps11
    go_wp2
    go_ret
    exact ⟨ret_int (by unfold hexD; omega), rfl⟩

theorem zzHexDigit_any (c : Int) (h0 : 0 ≤ c) (h1 : c ≤ 255) (w : World) :
    Calls Try.prog 6 #[.int .u8 c] w fun e w' => e = .returned (.int .i64 (hexD c)) ∧ w = w' := by
  go_enter Try.func6, Try.ntmps6
  go_wp2_with (go_at_call 11; refine (hexDigit_any c h0 h1 _).mono ?_; rintro e w' ⟨rfl, rfl⟩)
  go_ret
  exact ⟨rfl, rfl⟩

theorem tableDigit_any (c : Int) (h0 : 0 ≤ c) (h1 : c ≤ 255) (w : World) :
    Calls Try.prog 7 #[.int .u8 c] w fun e w' => e = .returned (.int .i64 (hexD c)) ∧ w = w' := by
  go_enter Try.func7, Try.ntmps7
  go_wp2
  go_loop [3] (fun d => ∃ k : Nat, k ≤ 16 ∧ d = .int .i64 k ∧ (0 ≤ hexD c → (k : Int) ≤ hexD c)) (fun d => 16 - (intOf d).toNat)
  case atStart => exact ⟨0, by omega, rfl, fun h => h⟩
  case round =>
    obtain ⟨k, hk, rfl, hd⟩ := hrel
    by_cases hlt : k < 16
    · go_wp2
      · go_ret
        exact ⟨ret_int (low_hit hlt ‹_›), rfl⟩
      · go_ret
        exact ⟨ret_int (or_hit hlt ‹_› ‹_›), rfl⟩
      · go_round
        case rel => exact ⟨k + 1, by omega, by go_num, both_miss hlt hd ‹_›⟩
        case measure => simp [intOf]; omega
    · go_wp2
      go_ret
      exact ⟨ret_int (by have := hexD_bd c; omega), rfl⟩
end Go.Proofs.Qxb6602600a
