/- cancelSQL and what it calls, by contracts. -/
import Derived.Test.Qxb6602665aRows
import Derived.Test.Qxb6602665aTpl
import Derived.WalkKit
import Derived.WalkSpells
import Derived.WalkLawsBesides
import Derived.ProofKit
namespace Go.Proofs.Qxb6602665a
open Go.RowKit
set_option linter.unusedVariables false

theorem anyID_any (a b : ByteArray) (w : World) (ha : a.size ≤ 100) (hb : b.size ≤ 100) :
    Calls Try.prog 24 #[.string a, .string b] w fun e w' => e = .returned (.string (a ++ { data := #[32, 61, 32, 65, 78, 89, 32, 40] } ++ b ++ { data := #[41] })) ∧ w = w' := by
  go_enter Try.func24, Try.ntmps24
  go_wp2
  go_ret
  exact ⟨rfl, rfl⟩

theorem byIDs_any (a b c d : ByteArray) (w : World) (ha : a.size ≤ 100) (hb : b.size ≤ 100) (hc : c.size ≤ 100) (hd : d.size ≤ 100) :
    Calls Try.prog 22 #[.string a, .string b, .string c, .string d] w fun e w' => ∃ r : ByteArray, e = .returned (.string r) ∧ r.size ≤ 1000 ∧
      Hid (r.data.toList = a.data.toList ++ ([32, 61, 32, 65, 78, 89, 32, 40] ++ (b.data.toList ++ ([41] ++ ([10, 32, 32, 32, 32, 32, 32, 65, 78, 68, 32] ++ (a.data.toList ++ ([32, 66, 69, 84, 87, 69, 69, 78, 32] ++ (c.data.toList ++ ([32, 65, 78, 68, 32] ++ d.data.toList))))))))) ∧ w = w' := by
  go_enter Try.func22, Try.ntmps22
  go_wp2_with (go_at_call 24; refine (anyID_any _ _ _ ha hb).mono ?_; rintro e w' ⟨rfl, rfl⟩)
  go_ret
  refine ⟨_, rfl, ?_, ?_, rfl⟩
  · simp only [ByteArray.size_append]
    show a.size + 8 + b.size + 1 + 11 + a.size + 9 + c.size + 5 + d.size ≤ 1000
    omega
  · show _ = _
    simp [ByteArray.data_append]

theorem ownRows_yes (a : ByteArray) (w : World) (h : (a.toList == [115, 99, 104, 101, 100, 117, 108, 101, 100]) = true) :
    Calls Try.prog 23 #[.string a] w fun e w' => e = .returned (.string { data := #[101, 118, 101, 110, 107, 101, 101, 108, 46, 115, 99, 104, 101, 100, 117, 108, 101, 100] }) ∧ w = w' := by
  go_enter Try.func23, Try.ntmps23
  go_wp2
  go_ret
  exact ⟨rfl, rfl⟩
theorem ownRows_no (a : ByteArray) (w : World) (h : (a.toList == [115, 99, 104, 101, 100, 117, 108, 101, 100]) = false) :
    Calls Try.prog 23 #[.string a] w fun e w' => e = .returned (.string { data := #[] }) ∧ w = w' := by
  go_enter Try.func23, Try.ntmps23
  go_wp2
  go_ret
  exact ⟨rfl, rfl⟩

set_option maxHeartbeats 800000 in
set_option maxRecDepth 100000 in
theorem cancel_no (t s : ByteArray) (wait : Bool) (w : World) (ht : t.size ≤ 65536) (hs : s.size ≤ 65536) (h : (s.toList == [115, 99, 104, 101, 100, 117, 108, 101, 100]) = false) :
    Calls Try.prog 19 #[.string t, .string s, .bool wait] w fun e w' => ∃ r : ByteArray, e = .returned (.string r) ∧ Hid (r.data.toList = fill t.data.toList s.data.toList (tpl false wait)) ∧ w = w' := by
  cases wait
  all_goals
    go_enter Try.func19, Try.ntmps19
    go_wp2_with fail
    refine (byIDs_any _ _ _ _ _ (by decide) (by decide) (by decide) (by decide)).mono ?_
    rintro e w' ⟨r1, rfl, hr1, hl1, rfl⟩
    go_wp2_with fail
    refine (ownRows_no _ _ h).mono ?_
    rintro e w' ⟨rfl, rfl⟩
    go_wp2_with fail
    refine (byIDs_any _ _ _ _ _ (by decide) (by decide) (by decide) (by decide)).mono ?_
    rintro e w' ⟨r2, rfl, hr2, hl2, rfl⟩
    go_wp2_with fail
    go_ret
    refine ⟨_, rfl, ?_, rfl⟩
    show _ = _
    rw [fill_tpl]
    simp only [ByteArray.data_append, Array.toList_append, hl1.out, hl2.out, List.append_assoc]
    kernel_rfl

set_option maxHeartbeats 800000 in
set_option maxRecDepth 100000 in
theorem cancel_yes (t s : ByteArray) (wait : Bool) (w : World) (ht : t.size ≤ 65536) (hs : s.size ≤ 65536) (h : (s.toList == [115, 99, 104, 101, 100, 117, 108, 101, 100]) = true) :
    Calls Try.prog 19 #[.string t, .string s, .bool wait] w fun e w' => ∃ r : ByteArray, e = .returned (.string r) ∧ Hid (r.data.toList = fill t.data.toList s.data.toList (tpl true wait)) ∧ w = w' := by
  cases wait
  all_goals
    go_enter Try.func19, Try.ntmps19
    go_wp2_with fail
    refine (byIDs_any _ _ _ _ _ (by decide) (by decide) (by decide) (by decide)).mono ?_
    rintro e w' ⟨r1, rfl, hr1, hl1, rfl⟩
    go_wp2_with fail
    refine (ownRows_yes _ _ h).mono ?_
    rintro e w' ⟨rfl, rfl⟩
    go_wp2_with fail
    refine (byIDs_any _ _ _ _ _ (by decide) (by decide) (by decide) (by decide)).mono ?_
    rintro e w' ⟨r2, rfl, hr2, hl2, rfl⟩
    go_wp2_with fail
    go_ret
    refine ⟨_, rfl, ?_, rfl⟩
    show _ = _
    rw [fill_tplS]
    simp only [ByteArray.data_append, Array.toList_append, hl2.out, List.append_assoc]
    kernel_rfl

theorem zzCancel_any (t s : ByteArray) (wait sch : Bool) (w : World) (ht : t.size ≤ 65536) (hs : s.size ≤ 65536) (h : (s.toList == [115, 99, 104, 101, 100, 117, 108, 101, 100]) = sch) :
    Calls Try.prog 14 #[.string t, .string s, .bool wait] w fun e w' => ∃ r : ByteArray, e = .returned (.string r) ∧ Hid (r.data.toList = fill t.data.toList s.data.toList (tpl sch wait)) ∧ w = w' := by
  cases sch
  · go_enter Try.func14, Try.ntmps14
    go_wp2_with (go_at_call 19; refine (cancel_no _ _ _ _ ht hs h).mono ?_; rintro e w' ⟨r, rfl, hr, rfl⟩)
    go_ret
    exact ⟨_, rfl, hr, rfl⟩
  · go_enter Try.func14, Try.ntmps14
    go_wp2_with (go_at_call 19; refine (cancel_yes _ _ _ _ ht hs h).mono ?_; rintro e w' ⟨r, rfl, hr, rfl⟩)
    go_ret
    exact ⟨_, rfl, hr, rfl⟩
theorem zzBytesCS (t s : ByteArray) (wait : Bool) (w : World) (ht : t.size ≤ 65536) (hs : s.size ≤ 65536) :
    Calls Try.prog 15 #[.string t, .string s, .bool wait] w fun e w' => e = .returned (.bool true) ∧ w = w' := by
  go_enter Try.func15, Try.ntmps15
  go_wp2
  go_ret
  exact ⟨rfl, rfl⟩
theorem zzBytesCS_any (t s : ByteArray) (wait : Bool) (w : World) (ht : t.size ≤ maxLen) (hs : s.size ≤ maxLen) :
    Calls Try.prog 15 #[.string t, .string s, .bool wait] w fun e w' => ∃ b, e = .returned (.bool b) ∧ w = w' := by
  unfold maxLen at ht hs
  go_enter Try.func15, Try.ntmps15
  go_wp2
  all_goals
    go_ret
    exact ⟨_, rfl, rfl⟩
end Go.Proofs.Qxb6602665a
