/- The number's readers: the small functions by contracts. -/
import Derived.Test.Qxb6602665aRows
import Derived.Test.Qxb6602665aNum
import Derived.WalkKit
import Derived.WalkSpells
import Derived.WalkLawsBesides
import Derived.ProofKit
import Derived.OwnWalk
import Derived.Laws.OwnMore
namespace Go.Proofs.Qxb6602665a
open Go.RowKit
set_option linter.unusedVariables false
theorem ret_int {k : IntKind} {a b : Int} (h : a = b) : Ending.returned (.int k a) = .returned (.int k b) := by rw [h]
theorem RnInfo5 : (Try.prog.info? 5).map (fun i => (i.zero, i.size, i.bytes)) = some (some (.int .u8 0), 1, 1) := by kernel_rfl

theorem isDigit_yes (c : Int) (w : World) (h : 48 ≤ c ∧ c ≤ 57) : Calls Try.prog 21 #[.int .u8 c] w fun e w' => e = .returned (.bool true) ∧ w = w' := by
  go_enter Try.func21, Try.ntmps21
  go_wp2
  go_ret
  exact ⟨by simp, rfl⟩
theorem isDigit_no (c : Int) (w : World) (h : c < 48 ∨ 57 < c) : Calls Try.prog 21 #[.int .u8 c] w fun e w' => e = .returned (.bool false) ∧ w = w' := by
  rcases h with h | h
  all_goals
    go_enter Try.func21, Try.ntmps21
    go_wp2
    go_ret
    exact ⟨by simp <;> omega, rfl⟩

theorem stp_else (s c : Int) (hs : 0 ≤ s ∧ s ≤ 4) (h : c < 48 ∨ 57 < c) (h1 : (c == 43) = false) (h2 : (c == 45) = false) (h3 : (c == 46) = false) (h4 : (c == 69) = false) (h5 : (c == 101) = false) : -1 = stp s c := by
  have g1 : c ≠ 43 := by simpa using h1
  have g2 : c ≠ 45 := by simpa using h2
  have g3 : c ≠ 46 := by simpa using h3
  have g4 : c ≠ 69 := by simpa using h4
  have g5 : c ≠ 101 := by simpa using h5
  unfold stp
  repeat' split
  all_goals omega
theorem stp_dig (s c : Int) (h : 48 ≤ c ∧ c ≤ 57) : stp s c = if s = 0 then 1 else if s = 1 then 1 else if s = 2 then 2 else if s = 3 then 4 else if s = 4 then 4 else -1 := by
  unfold stp
  repeat' split
  all_goals omega
set_option maxHeartbeats 1600000 in
theorem rnStep_any (s c : Int) (hs : 0 ≤ s ∧ s ≤ 4) (hc : 0 ≤ c ∧ c ≤ 255) (w : World) :
    Calls Try.prog 17 #[.int .i64 s, .int .u8 c] w fun e w' => e = .returned (.int .i64 (stp s c)) ∧ w = w' := by
  have h : s = 0 ∨ s = 1 ∨ s = 2 ∨ s = 3 ∨ s = 4 := by omega
  by_cases k1 : c = 43
  · subst k1
    rcases h with rfl | rfl | rfl | rfl | rfl
    all_goals
      go_enter Try.func17, Try.ntmps17
      go_wp2
      go_ret
      exact ⟨ret_int (by decide), rfl⟩
  by_cases k2 : c = 45
  · subst k2
    rcases h with rfl | rfl | rfl | rfl | rfl
    all_goals
      go_enter Try.func17, Try.ntmps17
      go_wp2
      go_ret
      exact ⟨ret_int (by decide), rfl⟩
  by_cases k3 : c = 46
  · subst k3
    rcases h with rfl | rfl | rfl | rfl | rfl
    all_goals
      go_enter Try.func17, Try.ntmps17
      go_wp2
      go_ret
      exact ⟨ret_int (by decide), rfl⟩
  by_cases k4 : c = 69
  · subst k4
    rcases h with rfl | rfl | rfl | rfl | rfl
    all_goals
      go_enter Try.func17, Try.ntmps17
      go_wp2
      go_ret
      exact ⟨ret_int (by decide), rfl⟩
  by_cases k5 : c = 101
  · subst k5
    rcases h with rfl | rfl | rfl | rfl | rfl
    all_goals
      go_enter Try.func17, Try.ntmps17
      go_wp2
      go_ret
      exact ⟨ret_int (by decide), rfl⟩
  have h1 : (c == 43) = false := by simpa using k1
  have h2 : (c == 45) = false := by simpa using k2
  have h3 : (c == 46) = false := by simpa using k3
  have h4 : (c == 69) = false := by simpa using k4
  have h5 : (c == 101) = false := by simpa using k5
  clear k1 k2 k3 k4 k5
  rcases (show (48 ≤ c ∧ c ≤ 57) ∨ c < 48 ∨ 57 < c by omega) with hk | hk | hk
  · have HS : Hid (∀ s, stp s c = if s = 0 then 1 else if s = 1 then 1 else if s = 2 then 2 else if s = 3 then 4 else if s = 4 then 4 else -1) := fun s => stp_dig s c hk
    rcases h with rfl | rfl | rfl | rfl | rfl
    all_goals
      go_enter Try.func17, Try.ntmps17
      go_wp2
      go_ret
      exact ⟨ret_int (by rw [HS.out]; decide), rfl⟩
  · have HS : Hid (-1 = stp s c) := stp_else s c hs (.inl hk) h1 h2 h3 h4 h5
    rcases h with rfl | rfl | rfl | rfl | rfl
    all_goals
      go_enter Try.func17, Try.ntmps17
      go_wp2
      go_ret
      exact ⟨ret_int HS.out, rfl⟩
  · have HS : Hid (-1 = stp s c) := stp_else s c hs (.inr hk) h1 h2 h3 h4 h5
    rcases h with rfl | rfl | rfl | rfl | rfl
    all_goals
      go_enter Try.func17, Try.ntmps17
      go_wp2
      go_ret
      exact ⟨ret_int HS.out, rfl⟩

theorem rnValue_zero (a : Option Addr) (cap : Nat) (w : World) : Calls Try.prog 18 #[.slice a 0 cap] w fun e w' => e = .returned (.int .i64 0) ∧ w = w' := by
  go_enter Try.func18, Try.ntmps18
  go_wp2
  refine wp_loop_rounds 1 ?_
  rw [rounds_succ]
  go_wp2
  go_ret
  exact ⟨rfl, rfl⟩
theorem val_le (c : Nat → Int) (a k m : Nat) (hk : k ≤ m) (hm : m ≤ 11) (hd : ∀ j, j < m → 48 ≤ c (a + j) ∧ c (a + j) ≤ 57) : 0 ≤ val c a k ∧ val c a k < 100000000000 := by
  have h1 := val_bd c a k (fun j hj => hd j (by omega))
  have h2 := ten_mono k 11 (by omega)
  rw [ten11] at h2
  omega
theorem rnValue_any (b off n cap a : Nat) (c : Nat → Int) (w : World) (hn : n ≤ 11) (hnc : n ≤ cap)
    (hcell : ∀ j, j < n → w.cell? ⟨b, off + j, none⟩ = some (.int .u8 (c (a + j)))) (hd : ∀ j, j < n → 48 ≤ c (a + j) ∧ c (a + j) ≤ 57) :
    Calls Try.prog 18 #[.slice (some ⟨b, off, none⟩) n cap] w fun e w' => e = .returned (.int .i64 (val c a n)) ∧ w = w' := by
  have HC : Hid (∀ j, j < n → w.cell? ⟨b, off + j, none⟩ = some (.int .u8 (c (a + j)))) := hcell
  have HD : Hid (∀ j, j < n → 48 ≤ c (a + j) ∧ c (a + j) ≤ 57) := hd
  clear hcell hd
  go_enter Try.func18, Try.ntmps18
  go_wp2
  go_loop [3, 4] (fun v i => ∃ k : Nat, k ≤ n ∧ i = .int .i64 k ∧ v = .int .i64 (val c a k)) (fun _ i => n - (intOf i).toNat)
  case atStart => exact ⟨0, by omega, rfl, rfl⟩
  case round =>
    obtain ⟨k, hk, rfl, rfl⟩ := hrel
    have hv := val_le c a k n hk hn HD.out
    by_cases hlt : k < n
    · have hg := HC.out k hlt
      have hdk := HD.out k hlt
      have HS : Hid (val c a (k + 1) = val c a k * 10 + (c (a + k) - 48)) := val_succ c a k
      go_wp2
      go_round
      case rel => exact ⟨k + 1, by omega, by go_num, by rw [HS.out]⟩
      case measure => simp [intOf]; omega
    · have : k = n := by omega
      subst this
      go_wp2
      go_ret
      exact ⟨rfl, rfl⟩
end Go.Proofs.Qxb6602665a
