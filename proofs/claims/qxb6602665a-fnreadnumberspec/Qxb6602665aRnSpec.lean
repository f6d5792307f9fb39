/- The law FnReadNumberSpec: its walk. -/
import Derived.Test.Qxb6602665aRnRead
import Derived.Deep.QuietTactic
import Derived.BigQuiet
namespace Go.Proofs.Qxb6602665a
open Go.RowKit
set_option linter.unusedVariables false

set_option maxHeartbeats 2000000 in
set_option maxRecDepth 100000 in
theorem zzRead_any (b len : Nat) (c : Nat → Int) (w : World) (hs : len ≤ 1048576) (hbw : b < w.heap.size)
    (hcell : ∀ j, j < len → w.cell? ⟨b, j, none⟩ = some (.int .u8 (c j))) (hb : ∀ j, 0 ≤ c j ∧ c j ≤ 255) :
    Calls Try.prog 9 #[.slice (some ⟨b, 0, none⟩) len len] w fun e w' => ∃ S : Sh, Ok c len S ∧ e = .returned (.tuple #[.bool S.neg, .int .i64 S.whole, .int .i64 S.frac, .int .i64 S.zeros, .int .i64 (S.exp c), .int .i64 S.N]) ∧ Below w.heap.size w w' := by
  have HC : Hid (∀ (o : Obj) (j : Nat), j < len → (w.alloc o).cell? ⟨b, j, none⟩ = some (.int .u8 (c j))) := fun o j hj => (World.cell?_alloc_lt w o ⟨b, j, none⟩ hbw).trans (hcell j hj)
  have HB : Hid (∀ j, 0 ≤ c j ∧ c j ≤ 255) := hb
  clear hcell hb
  go_enter Try.func9, Try.ntmps9
  go_wp2_with fail
  refine (read_any b len c _ hs (by simp; omega) (HC.out _) HB.out).mono ?_
  rintro e w1 ⟨S, hS, rfl, hbel⟩
  have HS : Hid (Ok c len S) := hS
  have HBE : Hid (Below w.heap.size w w1) := ((Below.refl w.heap.size w).alloc (Nat.le_refl _) _).trans (hbel.mono (by simp))
  have hsz : w.heap.size < w1.heap.size := by have := hbel.size; simp at this; omega
  have c0 : w1.cell? ⟨w.heap.size, 0, none⟩ = some (.bool false) := (hbel.cell (p := ⟨w.heap.size, 0, none⟩) (by simp)).trans (by simp)
  have c1 : w1.cell? ⟨w.heap.size, 1, none⟩ = some (.int .i64 0) := (hbel.cell (p := ⟨w.heap.size, 1, none⟩) (by simp)).trans (by simp)
  have c2 : w1.cell? ⟨w.heap.size, 2, none⟩ = some (.int .i64 0) := (hbel.cell (p := ⟨w.heap.size, 2, none⟩) (by simp)).trans (by simp)
  have c3 : w1.cell? ⟨w.heap.size, 3, none⟩ = some (.int .i64 0) := (hbel.cell (p := ⟨w.heap.size, 3, none⟩) (by simp)).trans (by simp)
  have c4 : w1.cell? ⟨w.heap.size, 4, none⟩ = some (.int .i64 0) := (hbel.cell (p := ⟨w.heap.size, 4, none⟩) (by simp)).trans (by simp)
  have f0 : w1.frozen? ⟨w.heap.size, 0, none⟩ = false := (hbel.frozen (p := ⟨w.heap.size, 0, none⟩) (by simp)).trans (by simp)
  have f1 : w1.frozen? ⟨w.heap.size, 1, none⟩ = false := (hbel.frozen (p := ⟨w.heap.size, 1, none⟩) (by simp)).trans (by simp)
  have f2 : w1.frozen? ⟨w.heap.size, 2, none⟩ = false := (hbel.frozen (p := ⟨w.heap.size, 2, none⟩) (by simp)).trans (by simp)
  have f3 : w1.frozen? ⟨w.heap.size, 3, none⟩ = false := (hbel.frozen (p := ⟨w.heap.size, 3, none⟩) (by simp)).trans (by simp)
  have f4 : w1.frozen? ⟨w.heap.size, 4, none⟩ = false := (hbel.frozen (p := ⟨w.heap.size, 4, none⟩) (by simp)).trans (by simp)
  clear hS hbel HC HB
  go_wp2
  go_quiet (fail)
  go_wp2
  refine bodyPost_ret (v := .tuple #[.bool S.neg, .int .i64 S.whole, .int .i64 S.frac, .int .i64 S.zeros, .int .i64 (S.exp c), .int .i64 (S.N : Int)]) (by simp [results, Try.results9, go_sem]) rfl ⟨S, HS.out, rfl, ?_⟩
  exact below_drewN (((((HBE.out.setCell (p := ⟨w.heap.size, 0, none⟩) (Nat.le_refl _) _).setCell (p := ⟨w.heap.size, 1, none⟩) (Nat.le_refl _) _).setCell (p := ⟨w.heap.size, 2, none⟩) (Nat.le_refl _) _).setCell (p := ⟨w.heap.size, 3, none⟩) (Nat.le_refl _) _).setCell (p := ⟨w.heap.size, 4, none⟩) (Nat.le_refl _) _) nq

/-! ### The nil slice -/
set_option maxHeartbeats 2000000 in
set_option maxRecDepth 100000 in
theorem digits_nil (w : World) (neg : Bool) (wh fr ze ex : Int) :
    Calls Try.prog 20 #[.pointer (some ⟨w.heap.size + 2, 0, none⟩), .pointer (some ⟨w.heap.size, 0, none⟩)] (((w.alloc (.cells #[.slice none 0 0] 22)).alloc (.cells #[.bool neg, .int .i64 wh, .int .i64 fr, .int .i64 ze, .int .i64 ex] 34)).alloc (.cells #[.int .i64 0] 3)) fun e w' => e = .returned (.int .i64 0) ∧ ((w.alloc (.cells #[.slice none 0 0] 22)).alloc (.cells #[.bool neg, .int .i64 wh, .int .i64 fr, .int .i64 ze, .int .i64 ex] 34)).alloc (.cells #[.int .i64 0] 3) = w' := by
  go_enter Try.func20, Try.ntmps20
  go_wp2
  refine wp_loop_rounds 1 ?_
  rw [rounds_succ]
  go_wp2
  go_ret
  exact ⟨rfl, rfl⟩
set_option maxHeartbeats 2000000 in
set_option maxRecDepth 100000 in
theorem read_nil (w : World) : Calls Try.prog 16 #[.slice none 0 0] w fun e w' => e = .returned (.tuple #[.agg #[.bool false, .int .i64 0, .int .i64 0, .int .i64 0, .int .i64 0], .int .i64 0]) ∧ Below w.heap.size w w' := by
  go_enter Try.func16, Try.ntmps16
  go_wp2_with fail
  refine (digits_nil w false 0 0 0 0).mono ?_
  rintro e w' ⟨rfl, rfl⟩
  go_wp2
  refine wp_loop_rounds 1 ?_
  rw [rounds_succ]
  go_wp2
  go_region
  all_goals
    go_wp2
    refine bodyPost_ret (v := .tuple #[.agg #[.bool false, .int .i64 0, .int .i64 0, .int .i64 0, .int .i64 0], .int .i64 0]) (by simp [results, Try.results16, go_sem]) rfl ⟨rfl, ?_⟩
    exact below_drewN ((((Below.refl w.heap.size w).alloc (Nat.le_refl _) _).alloc (by simp) _).alloc (by simp; omega) _) 1
set_option maxHeartbeats 2000000 in
set_option maxRecDepth 100000 in
theorem zzRead_nil (w : World) : Calls Try.prog 9 #[.slice none 0 0] w fun e w' => e = .returned (.tuple #[.bool false, .int .i64 0, .int .i64 0, .int .i64 0, .int .i64 0, .int .i64 0]) ∧ Below w.heap.size w w' := by
  go_enter Try.func9, Try.ntmps9
  go_wp2_with fail
  refine (read_nil _).mono ?_
  rintro e w1 ⟨rfl, hbel⟩
  have HBE : Hid (Below w.heap.size w w1) := ((Below.refl w.heap.size w).alloc (Nat.le_refl _) _).trans (hbel.mono (by simp))
  have hsz : w.heap.size < w1.heap.size := by have := hbel.size; simp at this; omega
  have c0 : w1.cell? ⟨w.heap.size, 0, none⟩ = some (.bool false) := (hbel.cell (p := ⟨w.heap.size, 0, none⟩) (by simp)).trans (by simp)
  have c1 : w1.cell? ⟨w.heap.size, 1, none⟩ = some (.int .i64 0) := (hbel.cell (p := ⟨w.heap.size, 1, none⟩) (by simp)).trans (by simp)
  have c2 : w1.cell? ⟨w.heap.size, 2, none⟩ = some (.int .i64 0) := (hbel.cell (p := ⟨w.heap.size, 2, none⟩) (by simp)).trans (by simp)
  have c3 : w1.cell? ⟨w.heap.size, 3, none⟩ = some (.int .i64 0) := (hbel.cell (p := ⟨w.heap.size, 3, none⟩) (by simp)).trans (by simp)
  have c4 : w1.cell? ⟨w.heap.size, 4, none⟩ = some (.int .i64 0) := (hbel.cell (p := ⟨w.heap.size, 4, none⟩) (by simp)).trans (by simp)
  have f0 : w1.frozen? ⟨w.heap.size, 0, none⟩ = false := (hbel.frozen (p := ⟨w.heap.size, 0, none⟩) (by simp)).trans (by simp)
  have f1 : w1.frozen? ⟨w.heap.size, 1, none⟩ = false := (hbel.frozen (p := ⟨w.heap.size, 1, none⟩) (by simp)).trans (by simp)
  have f2 : w1.frozen? ⟨w.heap.size, 2, none⟩ = false := (hbel.frozen (p := ⟨w.heap.size, 2, none⟩) (by simp)).trans (by simp)
  have f3 : w1.frozen? ⟨w.heap.size, 3, none⟩ = false := (hbel.frozen (p := ⟨w.heap.size, 3, none⟩) (by simp)).trans (by simp)
  have f4 : w1.frozen? ⟨w.heap.size, 4, none⟩ = false := (hbel.frozen (p := ⟨w.heap.size, 4, none⟩) (by simp)).trans (by simp)
  clear hbel
  go_wp2
  go_quiet (fail)
  go_wp2
  refine bodyPost_ret (v := .tuple #[.bool false, .int .i64 0, .int .i64 0, .int .i64 0, .int .i64 0, .int .i64 0]) (by simp [results, Try.results9, go_sem]) rfl ⟨rfl, ?_⟩
  exact below_drewN (((((HBE.out.setCell (p := ⟨w.heap.size, 0, none⟩) (Nat.le_refl _) _).setCell (p := ⟨w.heap.size, 1, none⟩) (Nat.le_refl _) _).setCell (p := ⟨w.heap.size, 2, none⟩) (Nat.le_refl _) _).setCell (p := ⟨w.heap.size, 3, none⟩) (Nat.le_refl _) _).setCell (p := ⟨w.heap.size, 4, none⟩) (Nat.le_refl _) _) nq
end Go.Proofs.Qxb6602665a
