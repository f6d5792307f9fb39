/- The law FnFlagsReadByFlagLetters: its walk. -/
import Derived.Test.Qxb6603208aA
namespace Go.Proofs.Qxb6603208a
open Go.RowKit
set_option linter.unusedVariables false

/-- The flags that the dictionary gives. -/
def fl (v m : Bool) : Int := if v then (if m then 192 else 128) else (if m then 64 else 0)
theorem fl_bd (v m : Bool) : 0 ≤ fl v m ∧ fl v m ≤ 255 := by cases v <;> cases m <;> decide
theorem zzFl_any (code vendor typ mand : Int) (name source : ByteArray) (w : World) :
    Calls Try.prog 13 #[.int .u32 code, .int .u32 vendor, .string name, .int .u8 typ, .int .u8 mand, .string source] w fun e w' => e = .returned (.int .u8 (fl (vendor != 0) (mand == 1))) ∧ Below w.heap.size w w' := by
  have o1 : bits .or .u8 0 128 = 128 := by decide
  have o2 : bits .or .u8 128 64 = 192 := by decide
  have o3 : bits .or .u8 0 64 = 64 := by decide
  cases hv : (vendor != 0) <;> cases hm : (mand == 1)
  all_goals
    go_enter Try.func13, Try.ntmps13
    go_wp2
    go_ret
    exact ⟨rfl, (Below.refl _ _).alloc (Nat.le_refl _) _⟩

theorem out_vm : outL (fl true true) { data := #[86, 77, 80] } = [86, 77] := by kernel_rfl
theorem out_v : outL (fl true false) { data := #[86, 77, 80] } = [86] := by kernel_rfl
theorem out_m : outL (fl false true) { data := #[86, 77, 80] } = [77] := by kernel_rfl
theorem out_none : outL (fl false false) { data := #[86, 77, 80] } = [45] := by kernel_rfl

theorem zzBytesFl (a b c d : Int) (n s : ByteArray) (w : World) (hn : n.size ≤ 65536) (hs : s.size ≤ 65536) :
    Calls Try.prog 12 #[.int .u32 a, .int .u32 b, .string n, .int .u8 c, .int .u8 d, .string s] w fun e w' => e = .returned (.bool true) ∧ w = w' := by
  go_enter Try.func12, Try.ntmps12
  go_wp2
  go_ret
  exact ⟨rfl, rfl⟩
theorem zzBytesFl_any (a b c d : Int) (n s : ByteArray) (w : World) (hn : n.size ≤ maxLen) (hs : s.size ≤ maxLen) :
    Calls Try.prog 12 #[.int .u32 a, .int .u32 b, .string n, .int .u8 c, .int .u8 d, .string s] w fun e w' => ∃ b, e = .returned (.bool b) ∧ w = w' := by
  unfold maxLen at hn hs
  go_enter Try.func12, Try.ntmps12
  go_wp2
  all_goals
    go_ret
    exact ⟨_, rfl, rfl⟩

set_option maxHeartbeats 1000000 in
theorem fr_walk (a0 a1 a3 a4 : Int) (a2 a5 : ByteArray) (w2 : a2.size ≤ 65536) (w5 : a5.size ≤ 65536) (w : World) :
    Calls Try.prog 5 #[.int .u32 a0, .int .u32 a1, .string a2, .int .u8 a3, .int .u8 a4, .string a5] w fun e w' => e = .returned (.bool true) ∧ Below w.heap.size w w' := by
  cases hv : (a1 != 0) <;> cases hm : (a4 == 1)
  all_goals
    go_enter Try.func5, Try.ntmps5
    go_wp2_with fail
    refine (zzBytesFl _ _ _ _ _ _ _ w2 w5).mono ?_
    rintro e w' ⟨rfl, rfl⟩
    go_wp2_with fail
    refine (zzFl_any _ _ _ _ _ _ _).mono ?_
    rintro e w1 ⟨rfl, hbel⟩
    have HBE : Hid (Below w.heap.size w w1) := hbel
    clear hbel
    rw [hv, hm]
    go_wp2_with fail
    refine (zzFlags_any _ _ _ (fl_bd _ _) (by decide)).mono ?_
    rintro e w2 ⟨r, rfl, hr, hbel2⟩
    have HB2 : Hid (Below w.heap.size w w2) := HBE.out.trans (hbel2.mono HBE.out.size)
    clear hbel2
    first
      | (have ht : (r.toList == [86, 77]) = true := by rw [ByteArray.toList_eq, hr.out, out_vm]; rfl)
      | (have ht : (r.toList == [86]) = true := by rw [ByteArray.toList_eq, hr.out, out_v]; rfl)
      | (have ht : (r.toList == [77]) = true := by rw [ByteArray.toList_eq, hr.out, out_m]; rfl)
      | (have ht : (r.toList == [45]) = true := by rw [ByteArray.toList_eq, hr.out, out_none]; rfl)
    clear hr
    go_wp2
    go_ret
    exact ⟨rfl, HB2.out⟩
end Go.Proofs.Qxb6603208a
