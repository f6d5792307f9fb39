/- The law FnHex4MatchesPositionalModel: its walk. -/
import Derived.Test.Qxb6602600aHex4
import Derived.OwnWalk
import Derived.Laws.OwnMore
namespace Go.Proofs.Qxb6602600a
open Go.RowKit
set_option linter.unusedVariables false
theorem PosInfo5 : (Try.prog.info? 5).map (fun i => (i.zero, i.size, i.bytes)) = some (some (.int .u8 0), 1, 1) := by kernel_rfl

theorem zzBytesPos (a : Option Addr) (len cap : Nat) (w : World) (h : len ≤ 1048576) :
    Calls Try.prog 8 #[.slice a len cap] w fun e w' => e = .returned (.bool true) ∧ w = w' := by
  go_enter Try.func8, Try.ntmps8
  go_wp2
  go_ret
  exact ⟨rfl, rfl⟩
theorem zzBytesPos_no (a : Option Addr) (len cap : Nat) (w : World) (hs : len ≤ maxLen) (h : ¬ len ≤ 1048576) :
    Calls Try.prog 8 #[.slice a len cap] w fun e w' => e = .returned (.bool false) ∧ w = w' := by
  unfold maxLen at hs
  go_enter Try.func8, Try.ntmps8
  go_wp2
  go_ret
  exact ⟨rfl, rfl⟩

/-- A copy in the making: block B, of len bytes, holds the first k of the numbers c. -/
def CopyInv (W : World) (B e len : Nat) (c : Nat → Int) (k : Nat) (wr : World) : Prop :=
  ∃ ys : List Int, ys.length = len ∧ (∀ j, j < k → ys.getD j 0 = c j) ∧ wr.ownsRow B e 1 (.slice (some ⟨B, 0, none⟩) len len) len (ys.map (Value.int .u8)) ∧ Below B W wr
theorem CopyInv.start {W w0 : World} {B e len : Nat} {c : Nat → Int} (hB : B = W.heap.size)
    (h : w0.ownsRow B e 1 (.slice (some ⟨B, 0, none⟩) len len) len (madeCells #[Value.int .u8 0] len).toList) (hg : W.grownBy w0 none) : CopyInv W B e len c 0 w0 := by
  subst hB
  refine ⟨List.replicate len 0, by simp, fun j hj => absurd hj (by omega), ?_, (Below.refl _ _).grown hg (Nat.le_refl _) (fun k h => by cases h)⟩
  have e : (madeCells #[Value.int .u8 0] len).toList = (List.replicate len (0 : Int)).map (Value.int .u8) := by
    rw [toList_madeCells_one]; simp
  rw [← e]; exact h
theorem CopyInv.old {W wr : World} {B e len k : Nat} {c : Nat → Int} (h : CopyInv W B e len c k wr) {j : Nat} (hj : j < len) : ∃ v, wr.cell? ⟨B, j, none⟩ = some (.int .u8 v) := by
  obtain ⟨ys, hl, hc, hown, hb⟩ := h
  refine ⟨ys.getD j 0, ?_⟩
  rw [hown.cellAt j (by omega)]
  simp [List.getElem?_eq_getElem (show j < ys.length by omega)]
theorem CopyInv.free {W wr : World} {B e len k : Nat} {c : Nat → Int} (h : CopyInv W B e len c k wr) (j : Nat) : wr.frozen? ⟨B, j, none⟩ = false := by
  obtain ⟨ys, hl, hc, hown, hb⟩ := h
  exact hown.frozenAt j
theorem CopyInv.below {W wr : World} {B e len k : Nat} {c : Nat → Int} (h : CopyInv W B e len c k wr) : Below B W wr := by
  obtain ⟨ys, hl, hc, hown, hb⟩ := h
  exact hb
theorem CopyInv.step {W wr : World} {B e len k : Nat} {c : Nat → Int} (h : CopyInv W B e len c k wr) (hk : k < len) : CopyInv W B e len c (k + 1) (wr.setCell ⟨B, k, none⟩ (.int .u8 (c k))) := by
  obtain ⟨ys, hl, hc, hown, hb⟩ := h
  refine ⟨ys.set k (c k), by simpa using hl, fun j hj => ?_, ?_, hb.setCell (Nat.le_refl _) _⟩
  · by_cases e : j = k
    · subst e
      simp [show j < ys.length by omega]
    · have := hc j (by omega)
      rw [List.getD_eq_getElem?_getD, List.getElem?_set_ne (by omega), ← List.getD_eq_getElem?_getD]
      exact this
  · have := (hown.stored k (.int .u8 (c k))).1
    rw [List.map_set]
    exact this
theorem CopyInv.cells {W wr : World} {B e len : Nat} {c : Nat → Int} (h : CopyInv W B e len c len wr) : ∀ j, j < len → wr.cell? ⟨B, j, none⟩ = some (.int .u8 (c j)) := by
  obtain ⟨ys, hl, hc, hown, hb⟩ := h
  intro j hj
  rw [hown.cellAt j (by omega), ← hc j hj]
  simp [List.getElem?_eq_getElem (show j < ys.length by omega)]

/-- The place of the last byte among the first k that is no digit; -1: none. -/
def lastOf (c : Nat → Int) : Nat → Int
  | 0 => -1
  | k + 1 => if hexD (c k) < 0 then (k : Int) else lastOf c k
theorem lastOf_succ (c : Nat → Int) (k : Nat) : lastOf c (k + 1) = if hexD (c k) < 0 then (k : Int) else lastOf c k := rfl
theorem lastOf_bd (c : Nat → Int) (k : Nat) : -1 ≤ lastOf c k ∧ lastOf c k < k := by
  induction k with
  | zero => simp [lastOf]
  | succ n ih => rw [lastOf_succ]; split <;> omega
/-- The value of the last m digits. -/
def tl (c : Nat → Int) (m : Nat) : Int :=
  if m = 0 then 0 else if m = 1 then hexD (c 3) else if m = 2 then hexD (c 3) + hexD (c 2) * 16 else if m = 3 then hexD (c 3) + hexD (c 2) * 16 + hexD (c 1) * 256 else hexD (c 3) + hexD (c 2) * 16 + hexD (c 1) * 256 + hexD (c 0) * 4096
def pw (m : Nat) : Int := if m = 0 then 1 else if m = 1 then 16 else if m = 2 then 256 else if m = 3 then 4096 else 65536

theorem tl0 (c : Nat → Int) : tl c 0 = 0 := rfl
theorem tl1 (c : Nat → Int) : tl c 1 = hexD (c 3) := rfl
theorem tl2 (c : Nat → Int) : tl c 2 = hexD (c 3) + hexD (c 2) * 16 := rfl
theorem tl3 (c : Nat → Int) : tl c 3 = hexD (c 3) + hexD (c 2) * 16 + hexD (c 1) * 256 := rfl
theorem tl4 (c : Nat → Int) : tl c 4 = hexD (c 3) + hexD (c 2) * 16 + hexD (c 1) * 256 + hexD (c 0) * 4096 := rfl
theorem tl_bd (c : Nat → Int) (m : Nat) : -4369 ≤ tl c m ∧ tl c m ≤ 65535 := by
  have b0 := hexD_bd (c 0)
  have b1 := hexD_bd (c 1)
  have b2 := hexD_bd (c 2)
  have b3 := hexD_bd (c 3)
  unfold tl
  split
  · omega
  split
  · omega
  split
  · omega
  split <;> omega
theorem pw_bd (m : Nat) : 1 ≤ pw m ∧ pw m ≤ 65536 := by unfold pw; omega
theorem model (c : Nat → Int) (m : Nat) (h : (m : Int) = 3 - lastOf c 4) : h4 c 4 = if 0 ≤ lastOf c 4 then tl c m - pw m else tl c m := by
  have b0 := hexD_bd (c 0)
  have b1 := hexD_bd (c 1)
  have b2 := hexD_bd (c 2)
  have b3 := hexD_bd (c 3)
  have l0 : lastOf c 0 = -1 := rfl
  have l1 := lastOf_succ c 0
  have l2 := lastOf_succ c 1
  have l3 := lastOf_succ c 2
  have l4 := lastOf_succ c 3
  have e0 : h4 c 0 = 0 := rfl
  have e1 := h4_succ c 0
  have e2 := h4_succ c 1
  have e3 := h4_succ c 2
  have e4 := h4_succ c 3
  simp only [Nat.zero_add, Nat.reduceAdd] at l1 l2 l3 l4 e1 e2 e3 e4
  have hb := lastOf_bd c 4
  have t0 := tl0 c
  have t1 := tl1 c
  have t2 := tl2 c
  have t3 := tl3 c
  have t4 := tl4 c
  have p0 : pw 0 = 1 := rfl
  have p1 : pw 1 = 16 := rfl
  have p2 : pw 2 = 256 := rfl
  have p3 : pw 3 = 4096 := rfl
  have p4 : pw 4 = 65536 := rfl
  by_cases h0 : hexD (c 0) < 0 <;> by_cases h1 : hexD (c 1) < 0 <;> by_cases h2 : hexD (c 2) < 0 <;> by_cases h3 : hexD (c 3) < 0 <;>
    simp only [h0, h1, h2, h3, if_true, if_false] at l1 l2 l3 l4 e1 e2 e3 e4 <;>
    (have hm : m = 0 ∨ m = 1 ∨ m = 2 ∨ m = 3 ∨ m = 4 := by omega) <;>
    rcases hm with rfl | rfl | rfl | rfl | rfl <;> (first | (exfalso; omega) | (split <;> omega))
end Go.Proofs.Qxb6602600a
