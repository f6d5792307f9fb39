/- The law FnReadNumberSpec: its walk out of the contracts. -/
import Derived.Test.Qxb6602665aRnSpec
import Derived.Test.Qxb6602665aRnFields
namespace Go.Proofs.Qxb6602665a
open Go.RowKit
set_option linter.unusedVariables false

theorem fields_any (b cap len : Nat) (c : Nat → Int) (w : World) (S : Sh) (hS : Ok c len S) (hN : S.N ≤ 1048576) (hcap : S.N ≤ cap) (hcm : cap ≤ 1048576)
    (hcell : ∀ j, j < S.N → w.cell? ⟨b, j, none⟩ = some (.int .u8 (c j))) (hb : ∀ j, 0 ≤ c j ∧ c j ≤ 255) :
    Calls Try.prog 11 #[.slice (some ⟨b, 0, none⟩) S.N cap] w fun e w' => e = .returned (.tuple #[.bool S.neg, .int .i64 S.whole, .int .i64 S.frac, .int .i64 S.zeros, .int .i64 (S.exp c)]) ∧ w = w' :=
  fields_core b cap c w S.neg S.dot S.ex S.sgn (S.ex && S.eneg) S.p0 S.p1 S.p2 S.p4 S.N S.f (parts_of hS) S.frac S.zeros (S.exp c) rfl rfl
    (by show S.exp c = _; unfold Sh.exp; cases S.ex <;> cases S.eneg <;> rfl) hN hcap hcm hcell hb

set_option maxHeartbeats 2000000 in
set_option maxRecDepth 100000 in
theorem fields_nil (cap : Nat) (w : World) : Calls Try.prog 11 #[.slice none 0 cap] w fun e w' => e = .returned (.tuple #[.bool false, .int .i64 0, .int .i64 0, .int .i64 0, .int .i64 0]) ∧ w = w' := by
  go_enter Try.func11, Try.ntmps11
  go_wp2
  refine wp_loop_rounds 1 ?_
  rw [rounds_succ]
  go_wp2
  refine wp_loop_rounds 1 ?_
  rw [rounds_succ]
  go_wp2
  refine wp_loop_rounds 1 ?_
  rw [rounds_succ]
  go_wp2
  exact bodyPost_ret (v := .tuple #[.bool false, .int .i64 0, .int .i64 0, .int .i64 0, .int .i64 0]) (by simp [results, Try.results11, go_sem]) rfl ⟨rfl, rfl⟩

theorem zzBytesRn (a : Option Addr) (len cap : Nat) (w : World) (h : len ≤ 1048576) :
    Calls Try.prog 7 #[.slice a len cap] w fun e w' => e = .returned (.bool true) ∧ w = w' := by
  go_enter Try.func7, Try.ntmps7
  go_wp2
  go_ret
  exact ⟨rfl, rfl⟩
theorem zzBytesRn_no (a : Option Addr) (len cap : Nat) (w : World) (hs : len ≤ maxLen) (h : ¬ len ≤ 1048576) :
    Calls Try.prog 7 #[.slice a len cap] w fun e w' => e = .returned (.bool false) ∧ w = w' := by
  unfold maxLen at hs
  go_enter Try.func7, Try.ntmps7
  go_wp2
  go_ret
  exact ⟨rfl, rfl⟩

set_option maxHeartbeats 2000000 in
theorem rn_nil (w : World) : Calls Try.prog 3 #[.slice none 0 0] w fun e w' => e = .returned (.bool true) ∧ Below w.heap.size w w' := by
  go_enter Try.func3, Try.ntmps3
  go_wp2_with fail
  refine (zzBytesRn _ _ _ _ (by omega)).mono ?_
  rintro e w' ⟨rfl, rfl⟩
  go_wp2_with fail
  refine (rnCopy_nil _ _).mono ?_
  rintro e w' ⟨rfl, rfl⟩
  go_wp2_with fail
  refine (zzRead_nil _).mono ?_
  rintro e w1 ⟨rfl, hbel⟩
  have HBE : Hid (Below w.heap.size w w1) := hbel
  clear hbel
  go_wp2_with fail
  refine (prefix_nil _ _).mono ?_
  rintro e w' ⟨rfl, rfl⟩
  go_wp2_with fail
  refine (fields_nil _ _).mono ?_
  rintro e w' ⟨rfl, rfl⟩
  go_wp2
  go_ret
  exact ⟨rfl, HBE.out⟩

set_option maxHeartbeats 2000000 in
theorem rn_some (ad : Addr) (len cap : Nat) (c : Nat → Int) (w : World) (hs : len ≤ 1048576)
    (hcell : 0 < len → ∃ b off, ad = ⟨b, off, none⟩ ∧ b < w.heap.size ∧ ∀ j, j < len → w.cell? ⟨b, off + j, none⟩ = some (.int .u8 (c j))) (hb : ∀ j, 0 ≤ c j ∧ c j ≤ 255) :
    Calls Try.prog 3 #[.slice (some ad) len cap] w fun e w' => e = .returned (.bool true) ∧ Below w.heap.size w w' := by
  have HC : Hid (0 < len → ∃ b off, ad = ⟨b, off, none⟩ ∧ b < w.heap.size ∧ ∀ j, j < len → w.cell? ⟨b, off + j, none⟩ = some (.int .u8 (c j))) := hcell
  have HB : Hid (∀ j, 0 ≤ c j ∧ c j ≤ 255) := hb
  clear hcell hb
  go_enter Try.func3, Try.ntmps3
  go_wp2_with fail
  refine (zzBytesRn _ _ _ _ hs).mono ?_
  rintro e w' ⟨rfl, rfl⟩
  go_wp2_with fail
  refine (rnCopy_any ad len cap c w hs HC.out).mono ?_
  rintro e w1 ⟨rfl, hbel, hlt, hcs⟩
  have HBE : Hid (Below w.heap.size w w1) := hbel
  have HCS : Hid (∀ j, j < len → w1.cell? ⟨w.heap.size, j, none⟩ = some (.int .u8 (c j))) := hcs
  clear hbel hcs HC
  go_wp2_with fail
  refine (zzRead_any w.heap.size len c w1 hs hlt HCS.out HB.out).mono ?_
  rintro e w2 ⟨S, hS, rfl, hbel2⟩
  have HS : Hid (Ok c len S) := hS
  have hN : S.N ≤ len := hS.p12.2.2.2.2
  have HBE2 : Hid (Below w1.heap.size w1 w2) := hbel2
  have HCS2 : Hid (∀ j, j < len → w2.cell? ⟨w.heap.size, j, none⟩ = some (.int .u8 (c j))) := fun j hj => (hbel2.cell (p := ⟨w.heap.size, j, none⟩) hlt).trans (HCS.out j hj)
  clear hS hbel2
  go_wp2_with fail
  refine (prefix_any w.heap.size len len c w2 hs S HS.out HCS2.out HB.out).mono ?_
  rintro e w' ⟨rfl, rfl⟩
  go_wp2_with fail
  refine (fields_any w.heap.size len len c w2 S HS.out (by omega) hN hs (fun j hj => HCS2.out j (by omega)) HB.out).mono ?_
  rintro e w' ⟨rfl, rfl⟩
  go_wp2
  go_ret
  refine ⟨by simp, HBE.out.trans (HBE2.out.mono HBE.out.size)⟩
end Go.Proofs.Qxb6602665a
