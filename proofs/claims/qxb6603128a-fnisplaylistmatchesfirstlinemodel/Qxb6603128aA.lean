/- The copy, the library's small functions, by contracts. -/
import Derived.Test.Qxb6603128aRows
import Derived.WalkKit
import Derived.WalkSpells
import Derived.WalkLawsBesides
import Derived.ProofKit
import Derived.OwnWalk
import Derived.Laws.OwnMore
import Derived.Laws.BytesArg
import Derived.Lib.SliceRun
import Derived.Deep.LoopGhost
namespace Go.Proofs.Qxb6603128a
open Go.RowKit
set_option linter.unusedVariables false
theorem PlInfo5 : (Try.prog.info? 5).map (fun i => (i.zero, i.size, i.bytes)) = some (some (.int .u8 0), 1, 1) := by kernel_rfl

/-- A copy in the making: block B, of len bytes, holds the first k of the numbers c. -/
def CopyInv (W : World) (B e len : Nat) (c : Nat → Int) (k : Nat) (wr : World) : Prop :=
  ∃ ys : List Int, ys.length = len ∧ (∀ j, j < k → ys.getD j 0 = c j) ∧ wr.ownsRow B e 1 (.slice (some ⟨B, 0, none⟩) len len) len (ys.map (Value.int .u8)) ∧ Below B W wr
theorem CopyInv.start {W w0 : World} {B e len : Nat} {c : Nat → Int} (hB : B = W.heap.size)
    (h : w0.ownsRow B e 1 (.slice (some ⟨B, 0, none⟩) len len) len (madeCells #[Value.int .u8 0] len).toList) (hg : W.grownBy w0 none) : CopyInv W B e len c 0 w0 := by
  subst hB
  refine ⟨List.replicate len 0, by simp, fun j hj => absurd hj (by omega), ?_, (Below.refl _ _).grown hg (Nat.le_refl _) (fun k h => by cases h)⟩
  have e : (madeCells #[Value.int .u8 0] len).toList = (List.replicate len (0 : Int)).map (Value.int .u8) := by
    rw [toList_madeCells_one]; simp
  rw [← e]; exact h
theorem CopyInv.old {W wr : World} {B e len k : Nat} {c : Nat → Int} (h : CopyInv W B e len c k wr) {j : Nat} (hj : j < len) : ∃ v, wr.cell? ⟨B, j, none⟩ = some (.int .u8 v) := by
  obtain ⟨ys, hl, hc, hown, hb⟩ := h
  refine ⟨ys.getD j 0, ?_⟩
  rw [hown.cellAt j (by omega)]
  simp [List.getElem?_eq_getElem (show j < ys.length by omega)]
theorem CopyInv.free {W wr : World} {B e len k : Nat} {c : Nat → Int} (h : CopyInv W B e len c k wr) (j : Nat) : wr.frozen? ⟨B, j, none⟩ = false := by
  obtain ⟨ys, hl, hc, hown, hb⟩ := h
  exact hown.frozenAt j
theorem CopyInv.below {W wr : World} {B e len k : Nat} {c : Nat → Int} (h : CopyInv W B e len c k wr) : Below B W wr := by
  obtain ⟨ys, hl, hc, hown, hb⟩ := h
  exact hb
theorem CopyInv.step {W wr : World} {B e len k : Nat} {c : Nat → Int} (h : CopyInv W B e len c k wr) (hk : k < len) : CopyInv W B e len c (k + 1) (wr.setCell ⟨B, k, none⟩ (.int .u8 (c k))) := by
  obtain ⟨ys, hl, hc, hown, hb⟩ := h
  refine ⟨ys.set k (c k), by simpa using hl, fun j hj => ?_, ?_, hb.setCell (Nat.le_refl _) _⟩
  · by_cases e : j = k
    · subst e
      simp [show j < ys.length by omega]
    · have := hc j (by omega)
      rw [List.getD_eq_getElem?_getD, List.getElem?_set_ne (by omega), ← List.getD_eq_getElem?_getD]
      exact this
  · have := (hown.stored k (.int .u8 (c k))).1
    rw [List.map_set]
    exact this
theorem CopyInv.cells {W wr : World} {B e len : Nat} {c : Nat → Int} (h : CopyInv W B e len c len wr) : ∀ j, j < len → wr.cell? ⟨B, j, none⟩ = some (.int .u8 (c j)) := by
  obtain ⟨ys, hl, hc, hown, hb⟩ := h
  intro j hj
  rw [hown.cellAt j (by omega), ← hc j hj]
  simp [List.getElem?_eq_getElem (show j < ys.length by omega)]


theorem zzCopy_nil (cap : Nat) (w : World) : Calls Try.prog 9 #[.slice none 0 cap] w fun e w' => e = .returned (.slice none 0 0) ∧ w = w' := by
  have hnil := fun (w : World) (a : Option Addr) (n c n' c' : Nat) => Lib.run_eql_slice_nil (P := Try.prog) w 22 5 a n c n' c' Try.underlying22
  go_enter Try.func9, Try.ntmps9
  go_wp2
  go_ret
  exact ⟨rfl, rfl⟩
set_option maxHeartbeats 800000 in
theorem zzCopy_any (ad : Addr) (len cap : Nat) (c : Nat → Int) (w : World) (hs : len ≤ 1048576)
    (hcell : 0 < len → ∃ b off, ad = ⟨b, off, none⟩ ∧ b < w.heap.size ∧ ∀ j, j < len → w.cell? ⟨b, off + j, none⟩ = some (.int .u8 (c j))) :
    Calls Try.prog 9 #[.slice (some ad) len cap] w fun e w' => e = .returned (.slice (some ⟨w.heap.size, 0, none⟩) len len) ∧ Below w.heap.size w w' ∧ w.heap.size < w'.heap.size ∧ ∀ j, j < len → w'.cell? ⟨w.heap.size, j, none⟩ = some (.int .u8 (c j)) := by
  have hnil := fun (w : World) (a : Option Addr) (n c n' c' : Nat) => Lib.run_eql_slice_nil (P := Try.prog) w 22 5 a n c n' c' Try.underlying22
  obtain ⟨i0, hi, hz0, hz1, hz2⟩ := info_parts PlInfo5
  have HC : Hid (0 < len → ∃ b off, ad = ⟨b, off, none⟩ ∧ b < w.heap.size ∧ ∀ j, j < len → w.cell? ⟨b, off + j, none⟩ = some (.int .u8 (c j))) := hcell
  clear hcell
  go_enter Try.func9, Try.ntmps9
  go_wp2_with (at_make; refine wpList_make_full _ rfl _ _ 22 rfl w.heap.size 5 i0 (.int .u8 0) 1 Try.underlying22 hi hz0 hz1 _ _ _ _ len rfl rfl (by omega) (by omega) ?b2 ?b3 (Nat.le_refl _) ?_)
  case b2 => (try rw [hz2]); omega
  case b3 => unfold maxLen; omega
  intro w0' hown0 hgrow0
  have hlt0 : w.heap.size < w0'.heap.size := (hown0.lt w.heap.size rfl).2
  have hinv0 : CopyInv w w.heap.size 5 len c 0 w0' := CopyInv.start rfl hown0 hgrow0
  clear hown0 hgrow0
  go_wp2
  go_loopw [4] (fun i wr => ∃ k : Nat, k ≤ len ∧ i = .int .i64 k ∧ CopyInv w w.heap.size 5 len c k wr ∧ w.heap.size < wr.heap.size) (fun i _ => len - (intOf i).toNat)
  case atStart => exact ⟨0, by omega, rfl, hinv0, hlt0⟩
  case round =>
    clear hinv0 hlt0
    obtain ⟨k, hk, rfl, hinv, hsz⟩ := hrel
    by_cases hlt : k < len
    · obtain ⟨b, off, rfl, hbw, hcs⟩ := HC.out (by omega)
      have hg : wr.cell? ⟨b, off + k, none⟩ = some (.int .u8 (c k)) := (hinv.below.cell (by exact hbw)).trans (hcs k hlt)
      obtain ⟨v0, hv0⟩ := hinv.old hlt
      have hf := hinv.free k
      clear hcs
      go_wp2
      go_roundw
      case rel => exact ⟨k + 1, by omega, by go_num, hinv.step hlt, by simpa using hsz⟩
      case measure => simp [intOf]; omega
    · have hkl : k = len := by omega
      subst hkl
      go_wp2
      go_ret
      exact ⟨rfl, hinv.below, hsz, hinv.cells⟩


/-- The first n numbers of c from o on. -/
def row (c : Nat → Int) (o n : Nat) : List Int := (List.range n).map fun j => c (o + j)
theorem row_length (c : Nat → Int) (o n : Nat) : (row c o n).length = n := by simp [row]
theorem row_getD (c : Nat → Int) (o n i : Nat) (h : i < n) : (row c o n).getD i 0 = c (o + i) := by simp [row, List.getElem?_range h]
theorem byte_inj {x y : Int} (hx : 0 ≤ x ∧ x ≤ 255) (hy : 0 ≤ y ∧ y ≤ 255) (h : UInt8.ofNat x.toNat = UInt8.ofNat y.toNat) : x = y := by
  have := congrArg UInt8.toNat h
  simp [UInt8.toNat_ofNat'] at this
  omega
theorem str_eq (c t : Nat → Int) (o n m : Nat) (hc : ∀ j, 0 ≤ c j ∧ c j ≤ 255) (ht : ∀ j, 0 ≤ t j ∧ t j ≤ 255) :
    ((strOfNums (row c o n)).toList == (strOfNums (row t 0 m)).toList) = true ↔ n = m ∧ ∀ j, j < m → c (o + j) = t j := by
  rw [ByteArray.toList_eq, ByteArray.toList_eq, strOfNums_data, strOfNums_data, beq_iff_eq]
  constructor
  · intro h
    have hl : n = m := by
      have := congrArg List.length h
      simpa [row] using this
    subst hl
    refine ⟨rfl, fun j hj => ?_⟩
    have := congrArg (fun l => l[j]?) h
    simp [row, List.getElem?_range hj] at this
    exact byte_inj (hc _) (ht _) (by simpa using this)
  · rintro ⟨rfl, h⟩
    congr 1
    unfold row
    apply List.map_congr_left
    intro j hj
    simp at hj ⊢
    exact h j hj

/-- Are they the same bytes? -/
def eqB (c t : Nat → Int) (o n m : Nat) : Bool := decide (n = m ∧ ∀ j, j < m → c (o + j) = t j)
/-- Does the row from o on, of n bytes, begin with the m bytes t? -/
def preB (c t : Nat → Int) (o n m : Nat) : Bool := decide (m ≤ n ∧ ∀ j, j < m → c (o + j) = t j)
theorem preB_iff (c t : Nat → Int) (o n m : Nat) : preB c t o n m = true ↔ m ≤ n ∧ ∀ j, j < m → c (o + j) = t j := by unfold preB; exact decide_eq_true_iff
theorem str_eqB (c t : Nat → Int) (o n m : Nat) (hc : ∀ j, 0 ≤ c j ∧ c j ≤ 255) (ht : ∀ j, 0 ≤ t j ∧ t j ≤ 255) :
    ((strOfNums (row c o n)).toList == (strOfNums (row t 0 m)).toList) = eqB c t o n m := by
  rw [Bool.eq_iff_iff, str_eq c t o n m hc ht]
  unfold eqB; exact decide_eq_true_iff.symm
theorem ret_bool {a b : Bool} (h : a = b) : Ending.returned (.bool a) = .returned (.bool b) := by rw [h]

theorem equal_any (b1 o1 n c1 b2 m c2 o : Nat) (c t : Nat → Int) (w : World) (hc : ∀ j, 0 ≤ c j ∧ c j ≤ 255) (ht : ∀ j, 0 ≤ t j ∧ t j ≤ 255)
    (h1 : ∀ i, i < n → w.cell? ⟨b1, o1 + i, none⟩ = some (.int .u8 (c (o + i)))) (h2 : ∀ i, i < m → w.cell? ⟨b2, 0 + i, none⟩ = some (.int .u8 (t i))) :
    Calls Try.prog 22 #[.slice (some ⟨b1, o1, none⟩) n c1, .slice (some ⟨b2, 0, none⟩) m c2] w fun e w' => e = .returned (.bool (eqB c t o n m)) ∧ w = w' := by
  have v1 := run_convert_bytes_arg w 22 5 Try.underlying22 Try.underlying5 b1 o1 n c1 (row c o n) (row_length c o n) (fun i hi => by rw [row_getD c o n i hi]; exact h1 i hi) 9 Try.underlying9
  have v2 := run_convert_bytes_arg w 22 5 Try.underlying22 Try.underlying5 b2 0 m c2 (row t 0 m) (row_length t 0 m) (fun i hi => by rw [row_getD t 0 m i hi, Nat.zero_add i]; have := h2 i hi; rw [Nat.zero_add] at this; exact this) 9 Try.underlying9
  have HE : Hid (((strOfNums (row c o n)).toList == (strOfNums (row t 0 m)).toList) = eqB c t o n m) := str_eqB c t o n m hc ht
  clear h1 h2 hc ht
  go_enter Try.func22, Try.ntmps22
  go_wp2
  go_ret
  exact ⟨ret_bool HE.out, rfl⟩

/-- HasPrefix, the cells of what is sought known. -/
theorem hasPrefix_any (b o n cap g m : Nat) (c t : Nat → Int) (w : World) (hnc : n ≤ cap) (hcm : cap ≤ 1048576) (hm : m ≤ 100) (hc : ∀ j, 0 ≤ c j ∧ c j ≤ 255) (ht : ∀ j, 0 ≤ t j ∧ t j ≤ 255)
    (h1 : ∀ i, i < n → w.cell? ⟨b, o + i, none⟩ = some (.int .u8 (c (o + i)))) (h2 : ∀ i, i < m → w.cell? ⟨g, 0 + i, none⟩ = some (.int .u8 (t i))) :
    Calls Try.prog 21 #[.slice (some ⟨b, o, none⟩) n cap, .slice (some ⟨g, 0, none⟩) m m] w fun e w' => e = .returned (.bool (preB c t o n m)) ∧ w = w' := by
  have H1 : Hid (∀ i, i < n → w.cell? ⟨b, o + i, none⟩ = some (.int .u8 (c (o + i)))) := h1
  have H2 : Hid (∀ i, i < m → w.cell? ⟨g, 0 + i, none⟩ = some (.int .u8 (t i))) := h2
  have HC : Hid (∀ j, 0 ≤ c j ∧ c j ≤ 255) := hc
  have HT : Hid (∀ j, 0 ≤ t j ∧ t j ≤ 255) := ht
  clear h1 h2 hc ht
  by_cases hmn : m ≤ n
  · go_enter Try.func21, Try.ntmps21
    go_wp2_with fail
    refine (equal_any b o m cap g m m o c t w HC.out HT.out (fun i hi => H1.out i (by omega)) H2.out).mono ?_
    rintro e w' ⟨rfl, rfl⟩
    go_wp2
    go_ret
    exact ⟨ret_bool (by unfold eqB preB; simp [hmn]), rfl⟩
  · have hmn' : ¬ (m : Int) ≤ (n : Int) := by omega
    go_enter Try.func21, Try.ntmps21
    go_wp2
    go_ret
    exact ⟨ret_bool (by unfold preB; simp [hmn]), rfl⟩
end Go.Proofs.Qxb6603128a
