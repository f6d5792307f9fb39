/- Bits, counts and the greedy match, in plain words. -/
import Derived.Test.Qxb6603208aA
namespace Go.Proofs.Qxb6603208a
open Go.RowKit
set_option linter.unusedVariables false

/-- The mask of the k highest bits. -/
def mk (i : Nat) : Int := ([0, 128, 192, 224, 240, 248, 252, 254, 255] : List Int).getD i 255
theorem mk_step : ∀ i, i < 8 → bits .or .u8 (mk i) (128 / 2 ^ min i 8) = mk (i + 1) := by decide
/-- The bits counted, the first k from the lowest up. -/
def pcs (x : Int) : Nat → Int
  | 0 => 0
  | k + 1 => if bits .and .u8 (x / 2 ^ min k 8) 1 == 1 then pcs x k + 1 else pcs x k
theorem pcs_succ (x : Int) (k : Nat) : pcs x (k + 1) = if bits .and .u8 (x / 2 ^ min k 8) 1 == 1 then pcs x k + 1 else pcs x k := rfl
theorem pcs_bd (x : Int) (k : Nat) : 0 ≤ pcs x k ∧ pcs x k ≤ k := by
  induction k with
  | zero => simp [pcs]
  | succ n ih => rw [pcs_succ]; split <;> omega
/-- The set bits among the k highest. -/
def cb (f : Int) : Nat → Nat
  | 0 => 0
  | k + 1 => if bitB f k then cb f k + 1 else cb f k
theorem sel_cb (f : Int) (s : ByteArray) (k : Nat) : (sel f s k).length = cb f k := by
  induction k with
  | zero => rfl
  | succ n ih =>
    cases h : bitB f n
    · rw [sel_no h, ih]; simp [cb, h]
    · rw [sel_yes h]; simp [cb, h, ih]
theorem pop_all : ∀ f, f < 256 → ∀ k, k < 9 → pcs (bits .and .u8 ((f : Nat) : Int) (mk k)) 8 = (cb ((f : Nat) : Int) k : Int) := by decide +kernel
theorem pop_is (f : Int) (h : 0 ≤ f ∧ f ≤ 255) (k : Nat) (hk : k ≤ 8) : pcs (bits .and .u8 f (mk k)) 8 = (cb f k : Int) := by
  obtain ⟨n, rfl⟩ := Int.eq_ofNat_of_zero_le h.1
  exact pop_all n (by omega) k (by omega)
theorem bit_past (f : Int) (k : Nat) (hk : 8 ≤ k) : bitB f k = false := by
  unfold bitB
  rw [Nat.min_eq_right hk]
  have e : (128 : Int) / 2 ^ 8 = 0 := by decide
  rw [e]
  have : bits .and .u8 f 0 = 0 := by
    show IntKind.u8.wrap ((BitVec.ofInt 8 f &&& BitVec.ofInt 8 0).toNat) = 0
    have e0 : BitVec.ofInt 8 0 = 0#8 := by decide
    rw [e0, BitVec.and_zero]
    decide
  rw [this]; decide
theorem sel_past (f : Int) (s : ByteArray) : ∀ m k, 8 ≤ k → k ≤ m → sel f s m = sel f s k := by
  intro m
  induction m with
  | zero => intro k h1 h2; omega
  | succ n ih =>
    intro k h1 h2
    by_cases e : k = n + 1
    · subst e; rfl
    · rw [sel_no (bit_past f n (by omega)), ih k h1 (by omega)]
/-- How many letters count. -/
def kk (s : ByteArray) : Nat := if s.size ≤ 8 then s.size else 8
theorem kk_le (s : ByteArray) : kk s ≤ 8 ∧ kk s ≤ s.size := by unfold kk; split <;> omega
theorem sel_kk (f : Int) (s : ByteArray) : sel f s s.size = sel f s (kk s) := by
  unfold kk
  split
  · rfl
  · exact sel_past f s s.size 8 (by omega) (by omega)
/-- The letter of a set bit stands at its rank. -/
theorem sel_at (f : Int) (s : ByteArray) (i : Nat) (hb : bitB f i = true) : ∀ m, i < m → (sel f s m)[(sel f s i).length]? = some (s.data.toList.getD i 0) := by
  intro m
  induction m with
  | zero => intro h; omega
  | succ n ih =>
    intro h
    by_cases e : i = n
    · subst e
      rw [sel_yes hb]
      simp
    · have h1 := ih (by omega)
      have hlt : (sel f s i).length < (sel f s n).length := by
        rcases Nat.lt_or_ge (sel f s i).length (sel f s n).length with h | h
        · exact h
        · rw [List.getElem?_eq_none h] at h1; cases h1
      cases hn : bitB f n
      · rw [sel_no hn]; exact h1
      · rw [sel_yes hn, List.getElem?_append_left hlt]; exact h1
/-- A set bit among the first k whose letter is a dash? -/
def okF (f : Int) (s : ByteArray) : Nat → Bool
  | 0 => false
  | k + 1 => if bitB f k && (s.data.toList.getD k 0 == 45) then true else okF f s k
theorem okF_of (f : Int) (s : ByteArray) (k : Nat) (h : (45 : UInt8) ∈ sel f s k) : okF f s k = true := by
  induction k with
  | zero => simp [sel] at h
  | succ n ih =>
    unfold okF
    cases hb : bitB f n
    · rw [sel_no hb] at h
      simp [ih h]
    · rw [sel_yes hb] at h
      simp only [List.mem_append, List.mem_singleton] at h
      rcases h with h | h
      · split
        · rfl
        · exact ih h
      · rw [← h]; simp
end Go.Proofs.Qxb6603208a
