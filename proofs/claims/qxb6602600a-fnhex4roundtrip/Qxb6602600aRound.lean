/- The law FnHex4RoundTrip: its walk. -/
import Derived.Test.Qxb6602600aHex4
import Derived.Maps.AppendAt
import Derived.OwnWalk
import Derived.Laws.OwnMore
namespace Go.Proofs.Qxb6602600a
open Go.RowKit
set_option linter.unusedVariables false
theorem Try.info5 : (Try.prog.info? 5).map (fun i => (i.zero, i.size, i.bytes)) = some (some (.int .u8 0), 1, 1) := by kernel_rfl

theorem zzBytesRT (a0 a1 : Int) (s : ByteArray) (w : World) (h : s.size ≤ 1048576) :
    Calls Try.prog 10 #[.int .u16 a0, .int .u8 a1, .string s] w fun e w' => e = .returned (.bool true) ∧ w = w' := by
  go_enter Try.func10, Try.ntmps10
  go_wp2
  go_ret
  exact ⟨rfl, rfl⟩
theorem zzBytesRT_no (a0 a1 : Int) (s : ByteArray) (w : World) (hs : s.size ≤ maxLen) (h : ¬ s.size ≤ 1048576) :
    Calls Try.prog 10 #[.int .u16 a0, .int .u8 a1, .string s] w fun e w' => e = .returned (.bool false) ∧ w = w' := by
  unfold maxLen at hs
  go_enter Try.func10, Try.ntmps10
  go_wp2
  go_ret
  exact ⟨rfl, rfl⟩

/-- The digit at place j of a number of 16 bits. -/
def dg (v : Int) (j : Nat) : Int :=
  if j = 0 then v / 4096 % 16 else if j = 1 then v / 256 % 16 else if j = 2 then v / 16 % 16 else v % 16

/-- The bytes written so far: the first four spell v. -/
def Dig (v : Int) (xs : List Int) (k : Nat) : Prop :=
  xs.length = k ∧ (∀ j, j < k → j < 4 → hexD (xs.getD j 0) = dg v j) ∧ ∀ j, 0 ≤ xs.getD j 0 ∧ xs.getD j 0 ≤ 255
theorem Dig.nil (v : Int) : Dig v [] 0 := ⟨rfl, fun j h => absurd h (by omega), fun j => by simp⟩
theorem Dig.snoc {v : Int} {xs : List Int} {k : Nat} (h : Dig v xs k) (x : Int) (h0 : 0 ≤ x ∧ x ≤ 255) (hx : k < 4 → hexD x = dg v k) : Dig v (xs ++ [x]) (k + 1) := by
  obtain ⟨hl, hd, hb⟩ := h
  refine ⟨by simp [hl], fun j hj hj4 => ?_, fun j => ?_⟩
  · by_cases e : j < k
    · have := hd j e hj4
      rw [List.getD_eq_getElem?_getD, List.getElem?_append_left (by omega), ← List.getD_eq_getElem?_getD]
      exact this
    · have : j = k := by omega
      subst this
      rw [List.getD_eq_getElem?_getD, List.getElem?_append_right (by omega)]
      simp [hl]
      exact hx hj4
  · by_cases e : j < xs.length
    · rw [List.getD_eq_getElem?_getD, List.getElem?_append_left e, ← List.getD_eq_getElem?_getD]; exact hb j
    · rw [List.getD_eq_getElem?_getD, List.getElem?_append_right (by omega)]
      cases hq : j - xs.length with
      | zero => simpa using h0
      | succ n => simp
theorem Dig.value {v : Int} {xs : List Int} {k : Nat} (h : Dig v xs k) (hk : 4 ≤ k) (h0 : 0 ≤ v) (h1 : v ≤ 65535) : h4 (fun j => xs.getD j 0) 4 = v := by
  have d0 := h.2.1 0 (by omega) (by omega)
  have d1 := h.2.1 1 (by omega) (by omega)
  have d2 := h.2.1 2 (by omega) (by omega)
  have d3 := h.2.1 3 (by omega) (by omega)
  simp only [dg] at d0 d1 d2 d3
  simp only [if_true, Nat.reduceEqDiff, if_false] at d0 d1 d2 d3
  simp only [h4, d0, d1, d2, d3]
  rw [if_neg (by omega), if_neg (by omega), if_neg (by omega), if_neg (by omega)]
  omega

theorem and15 (x : Int) (h0 : 0 ≤ x) (h1 : x ≤ 65535) : bits .and .i64 x 15 = x % 16 :=
  bits_mask .i64 32 (by decide) (fun n a b => IntWalk.i64_in n ⟨by omega, by omega⟩) 4 (by decide) x h0 (by omega)
theorem low_val (d : Int) (h0 : 0 ≤ d) (h1 : d < 16) (h : d.toNat < 16) : hexD ((({ data := #[48, 49, 50, 51, 52, 53, 54, 55, 56, 57, 97, 98, 99, 100, 101, 102] } : ByteArray)[d.toNat]'h).toNat : Int) = d := by
  have := low_hit h rfl; omega
theorem up_val (d : Int) (h0 : 0 ≤ d) (h1 : d < 16) (h : d.toNat < 16) : hexD ((({ data := #[48, 49, 50, 51, 52, 53, 54, 55, 56, 57, 65, 66, 67, 68, 69, 70] } : ByteArray)[d.toNat]'h).toNat : Int) = d := by
  have := up_hit h rfl; omega
theorem byte_bd (x : UInt8) : 0 ≤ (x.toNat : Int) ∧ (x.toNat : Int) ≤ 255 := ⟨by omega, by have := x.toNat_lt; omega⟩

theorem rel_step {w wr w1 : World} {a0 : Int} {cap k : Nat} {xs : List Int} {x : Int} {o : Obj} (hdig : Dig a0 xs k) (hx0 : 0 ≤ x ∧ x ≤ 255) (hx : k < 4 → hexD x = dg a0 k)
    (hown1 : w1.ownsRow w.heap.size 5 1 (.slice (some ⟨w.heap.size, 0, none⟩) (k + 1) cap) (k + 1) (xs.map (Value.int .u8) ++ [.int .u8 x])) (hgrow1 : (wr.alloc o).grownBy w1 (some w.heap.size)) (hbel : Below w.heap.size w wr) :
    Dig a0 (xs ++ [x]) (k + 1) ∧ w1.ownsRow w.heap.size 5 1 (.slice (some ⟨w.heap.size, 0, none⟩) (k + 1) cap) (k + 1) ((xs ++ [x]).map (Value.int .u8)) ∧ Below w.heap.size w w1 :=
  ⟨hdig.snoc x hx0 hx, by simpa using hown1, (hbel.alloc hbel.size o).grown hgrow1 (by simp; have := hbel.size; omega) (fun k hk => by cases hk; exact Nat.le_refl _)⟩

set_option maxHeartbeats 800000 in
theorem rt_walk (a0 : Int) (a1 : Int) (a2 : ByteArray) (w0 : 0 ≤ a0 ∧ a0 ≤ 65535) (w1 : 0 ≤ a1 ∧ a1 ≤ 255) (hs : a2.size ≤ 1048576) (w : World) :
    Calls Try.prog 5 #[.int .u16 a0, .int .u8 a1, .string a2] w fun e w' => e = .returned (.bool true) ∧ Below w.heap.size w w' := by
  obtain ⟨i0, hi, hz0, hz1, hz2⟩ := info_parts Try.info5
  go_enter Try.func5, Try.ntmps5
  go_wp2_with (first | (go_at_call 10; refine (zzBytesRT _ _ _ _ hs).mono ?_; rintro e w' ⟨rfl, rfl⟩) | (at_make; refine wpList_make_own _ rfl _ _ 24 rfl w.heap.size 5 i0 (.int .u8 0) 1 Try.underlying24 hi hz0 hz1 _ _ _ (4 + a2.size) rfl rfl (by omega) ?b2 ?b3 (Nat.le_refl _) ?_))
  case b2 => rw [hz2]; omega
  case b3 => unfold maxLen; omega
  intro w0' hown0 hgrow0
  go_wp2
  go_loopw [7, 8] (fun buf i wr => ∃ (k : Nat) (xs : List Int), k ≤ 4 ∧ i = .int .i64 k ∧ buf = .slice (some ⟨w.heap.size, 0, none⟩) k (4 + a2.size) ∧
      Dig a0 xs k ∧ wr.ownsRow w.heap.size 5 1 (.slice (some ⟨w.heap.size, 0, none⟩) k (4 + a2.size)) k (xs.map (Value.int .u8)) ∧ Below w.heap.size w wr)
    (fun _ i _ => 4 - (intOf i).toNat)
  case atStart => exact ⟨0, [], by omega, rfl, rfl, Dig.nil _, hown0, (Below.refl _ _).grown hgrow0 (Nat.le_refl _) (fun k h => by cases h)⟩
  case round =>
    obtain ⟨k, xs, hk, rfl, rfl, hdig, hown, hbel⟩ := hrel
    have hsz := hbel.size
    clear hown0 hgrow0
    by_cases hlt : k < 4
    · have d0 := and15 (a0 / 4096) (by omega) (by omega)
      have d1 := and15 (a0 / 256) (by omega) (by omega)
      have d2 := and15 (a0 / 16) (by omega) (by omega)
      have d3 := and15 a0 (by omega) (by omega)
      have h : k = 0 ∨ k = 1 ∨ k = 2 ∨ k = 3 := by omega
      rcases h with rfl | rfl | rfl | rfl
      all_goals
        go_wp2_with (at_builtin; refine wpList_append_fits _ rfl _ _ 24 rfl w.heap.size 5 i0 1 Try.underlying24 hi hz1 w.heap.size _ (4 + a2.size) _ rfl (hown.alloc _) ⟨wr.heap.size, 0, none⟩ 1 1 _ rfl rfl (cell_one_new _ _ _) (by intro u hu; simp at hu; subst hu; rfl) (by omega) ?_; intro w1 hown1 hgrow1)
      all_goals
        have R := rel_step hdig (byte_bd _) (fun _ => (by first | exact up_val _ (by omega) (by omega) _ | exact low_val _ (by omega) (by omega) _)) hown1 hgrow1 hbel
        clear hown1 hgrow1 hown d0 d1 d2 d3
        go_roundw
        case rel => exact ⟨_, _, by decide, rfl, rfl, R.1, R.2.1, R.2.2⟩
        case measure => simp [intOf]
    · have hk4 : k = 4 := by omega
      subst hk4
      go_wp2
      go_loopw [7, 10] (fun buf i wr => ∃ (k : Nat) (xs : List Int), k ≤ a2.size ∧ i = .int .i64 k ∧ buf = .slice (some ⟨w.heap.size, 0, none⟩) (4 + k) (4 + a2.size) ∧
          Dig a0 xs (4 + k) ∧ wr.ownsRow w.heap.size 5 1 (.slice (some ⟨w.heap.size, 0, none⟩) (4 + k) (4 + a2.size)) (4 + k) (xs.map (Value.int .u8)) ∧ Below w.heap.size w wr)
        (fun _ i _ => a2.size - (intOf i).toNat)
      case atStart => exact ⟨0, xs, by omega, rfl, rfl, hdig, hown, hbel⟩
      case round =>
        clear hdig hown hbel hsz
        obtain ⟨k, xs, hk, rfl, rfl, hdig, hown, hbel⟩ := hrel
        have hsz := hbel.size
        by_cases hlt : k < a2.size
        · go_wp2_with (at_builtin; refine wpList_append_fits _ rfl _ _ 24 rfl w.heap.size 5 i0 1 Try.underlying24 hi hz1 w.heap.size _ (4 + a2.size) _ rfl (hown.alloc _) ⟨_, 0, none⟩ 1 1 _ rfl rfl (cell_one_new _ _ _) (by intro u hu; simp at hu; subst hu; rfl) (by omega) ?_; intro w1 hown1 hgrow1)
          have R := rel_step hdig (byte_bd _) (fun h => absurd h (by omega)) hown1 hgrow1 hbel
          clear hown1 hgrow1 hown
          go_roundw
          case rel => (repeat apply Exists.intro); exact ⟨⟨k + 1, _, by omega, by go_num, rfl, R.1, R.2.1, R.2.2⟩, rfl⟩
          case measure => simp [intOf]; omega
        · have hke : k = a2.size := by omega
          subst hke
          obtain ⟨c, hc⟩ : ∃ c : Nat → Int, c = fun j => xs.getD j 0 := ⟨_, rfl⟩
          have hv : h4 c 4 = a0 := by rw [hc]; exact hdig.value (by omega) w0.1 w0.2
          have HB : Hid (∀ j, 0 ≤ c j ∧ c j ≤ 255) := by rw [hc]; exact hdig.2.2
          have HC : Hid (∀ j, j < 4 → wr.cell? ⟨w.heap.size, 0 + j, none⟩ = some (.int .u8 (c j))) := by
            intro j hj
            rw [Nat.zero_add, hown.cellAt j (by omega), hc]
            have hl := hdig.1
            simp [List.getElem?_eq_getElem (show j < xs.length by omega)]
          clear hc hdig hown
          go_wp2_with (go_at_call 9; refine (zzHex4_any w.heap.size 0 _ _ c _ (by omega) (by omega) (by unfold maxLen; omega) HC.out HB.out).mono ?_; rintro e w' ⟨rfl, rfl⟩)
          go_ret
          exact ⟨by simp, hbel⟩
end Go.Proofs.Qxb6602600a
