/- The number's readers: the copy, the automaton, the closure that reads digits. -/
import Derived.Test.Qxb6602665aRnA
import Derived.Lib.SliceRun
import Derived.Deep.LoopGhost
namespace Go.Proofs.Qxb6602665a
open Go.RowKit
set_option linter.unusedVariables false

/-- A copy in the making: block B, of len bytes, holds the first k of the numbers c. -/
def CopyInv (W : World) (B e len : Nat) (c : Nat → Int) (k : Nat) (wr : World) : Prop :=
  ∃ ys : List Int, ys.length = len ∧ (∀ j, j < k → ys.getD j 0 = c j) ∧ wr.ownsRow B e 1 (.slice (some ⟨B, 0, none⟩) len len) len (ys.map (Value.int .u8)) ∧ Below B W wr
theorem CopyInv.start {W w0 : World} {B e len : Nat} {c : Nat → Int} (hB : B = W.heap.size)
    (h : w0.ownsRow B e 1 (.slice (some ⟨B, 0, none⟩) len len) len (madeCells #[Value.int .u8 0] len).toList) (hg : W.grownBy w0 none) : CopyInv W B e len c 0 w0 := by
  subst hB
  refine ⟨List.replicate len 0, by simp, fun j hj => absurd hj (by omega), ?_, (Below.refl _ _).grown hg (Nat.le_refl _) (fun k h => by cases h)⟩
  have e : (madeCells #[Value.int .u8 0] len).toList = (List.replicate len (0 : Int)).map (Value.int .u8) := by
    rw [toList_madeCells_one]; simp
  rw [← e]; exact h
theorem CopyInv.old {W wr : World} {B e len k : Nat} {c : Nat → Int} (h : CopyInv W B e len c k wr) {j : Nat} (hj : j < len) : ∃ v, wr.cell? ⟨B, j, none⟩ = some (.int .u8 v) := by
  obtain ⟨ys, hl, hc, hown, hb⟩ := h
  refine ⟨ys.getD j 0, ?_⟩
  rw [hown.cellAt j (by omega)]
  simp [List.getElem?_eq_getElem (show j < ys.length by omega)]
theorem CopyInv.free {W wr : World} {B e len k : Nat} {c : Nat → Int} (h : CopyInv W B e len c k wr) (j : Nat) : wr.frozen? ⟨B, j, none⟩ = false := by
  obtain ⟨ys, hl, hc, hown, hb⟩ := h
  exact hown.frozenAt j
theorem CopyInv.below {W wr : World} {B e len k : Nat} {c : Nat → Int} (h : CopyInv W B e len c k wr) : Below B W wr := by
  obtain ⟨ys, hl, hc, hown, hb⟩ := h
  exact hb
theorem CopyInv.step {W wr : World} {B e len k : Nat} {c : Nat → Int} (h : CopyInv W B e len c k wr) (hk : k < len) : CopyInv W B e len c (k + 1) (wr.setCell ⟨B, k, none⟩ (.int .u8 (c k))) := by
  obtain ⟨ys, hl, hc, hown, hb⟩ := h
  refine ⟨ys.set k (c k), by simpa using hl, fun j hj => ?_, ?_, hb.setCell (Nat.le_refl _) _⟩
  · by_cases e : j = k
    · subst e
      simp [show j < ys.length by omega]
    · have := hc j (by omega)
      rw [List.getD_eq_getElem?_getD, List.getElem?_set_ne (by omega), ← List.getD_eq_getElem?_getD]
      exact this
  · have := (hown.stored k (.int .u8 (c k))).1
    rw [List.map_set]
    exact this
theorem CopyInv.cells {W wr : World} {B e len : Nat} {c : Nat → Int} (h : CopyInv W B e len c len wr) : ∀ j, j < len → wr.cell? ⟨B, j, none⟩ = some (.int .u8 (c j)) := by
  obtain ⟨ys, hl, hc, hown, hb⟩ := h
  intro j hj
  rw [hown.cellAt j (by omega), ← hc j hj]
  simp [List.getElem?_eq_getElem (show j < ys.length by omega)]


theorem rnCopy_nil (cap : Nat) (w : World) : Calls Try.prog 8 #[.slice none 0 cap] w fun e w' => e = .returned (.slice none 0 0) ∧ w = w' := by
  have hnil := fun (w : World) (a : Option Addr) (n c n' c' : Nat) => Lib.run_eql_slice_nil (P := Try.prog) w 22 5 a n c n' c' Try.underlying22
  go_enter Try.func8, Try.ntmps8
  go_wp2
  go_ret
  exact ⟨rfl, rfl⟩
set_option maxHeartbeats 800000 in
theorem rnCopy_any (ad : Addr) (len cap : Nat) (c : Nat → Int) (w : World) (hs : len ≤ 1048576)
    (hcell : 0 < len → ∃ b off, ad = ⟨b, off, none⟩ ∧ b < w.heap.size ∧ ∀ j, j < len → w.cell? ⟨b, off + j, none⟩ = some (.int .u8 (c j))) :
    Calls Try.prog 8 #[.slice (some ad) len cap] w fun e w' => e = .returned (.slice (some ⟨w.heap.size, 0, none⟩) len len) ∧ Below w.heap.size w w' ∧ w.heap.size < w'.heap.size ∧ ∀ j, j < len → w'.cell? ⟨w.heap.size, j, none⟩ = some (.int .u8 (c j)) := by
  have hnil := fun (w : World) (a : Option Addr) (n c n' c' : Nat) => Lib.run_eql_slice_nil (P := Try.prog) w 22 5 a n c n' c' Try.underlying22
  obtain ⟨i0, hi, hz0, hz1, hz2⟩ := info_parts RnInfo5
  have HC : Hid (0 < len → ∃ b off, ad = ⟨b, off, none⟩ ∧ b < w.heap.size ∧ ∀ j, j < len → w.cell? ⟨b, off + j, none⟩ = some (.int .u8 (c j))) := hcell
  clear hcell
  go_enter Try.func8, Try.ntmps8
  go_wp2_with (at_make; refine wpList_make_full _ rfl _ _ 22 rfl w.heap.size 5 i0 (.int .u8 0) 1 Try.underlying22 hi hz0 hz1 _ _ _ _ len rfl rfl (by omega) (by omega) ?b2 ?b3 (Nat.le_refl _) ?_)
  case b2 => (try rw [hz2]); omega
  case b3 => unfold maxLen; omega
  intro w0' hown0 hgrow0
  have hlt0 : w.heap.size < w0'.heap.size := (hown0.lt w.heap.size rfl).2
  have hinv0 : CopyInv w w.heap.size 5 len c 0 w0' := CopyInv.start rfl hown0 hgrow0
  clear hown0 hgrow0
  go_wp2
  go_loopw [4] (fun i wr => ∃ k : Nat, k ≤ len ∧ i = .int .i64 k ∧ CopyInv w w.heap.size 5 len c k wr ∧ w.heap.size < wr.heap.size) (fun i _ => len - (intOf i).toNat)
  case atStart => exact ⟨0, by omega, rfl, hinv0, hlt0⟩
  case round =>
    clear hinv0 hlt0
    obtain ⟨k, hk, rfl, hinv, hsz⟩ := hrel
    by_cases hlt : k < len
    · obtain ⟨b, off, rfl, hbw, hcs⟩ := HC.out (by omega)
      have hg : wr.cell? ⟨b, off + k, none⟩ = some (.int .u8 (c k)) := (hinv.below.cell (by exact hbw)).trans (hcs k hlt)
      obtain ⟨v0, hv0⟩ := hinv.old hlt
      have hf := hinv.free k
      clear hcs
      go_wp2
      go_roundw
      case rel => exact ⟨k + 1, by omega, by go_num, hinv.step hlt, by simpa using hsz⟩
      case measure => simp [intOf]; omega
    · have hkl : k = len := by omega
      subst hkl
      go_wp2
      go_ret
      exact ⟨rfl, hinv.below, hsz, hinv.cells⟩

theorem prefix_nil (cap : Nat) (w : World) : Calls Try.prog 10 #[.slice none 0 cap] w fun e w' => e = .returned (.int .i64 0) ∧ w = w' := by
  go_enter Try.func10, Try.ntmps10
  go_wp2
  refine wp_loop_rounds 1 ?_
  rw [rounds_succ]
  go_wp2
  go_ret
  exact ⟨rfl, rfl⟩
theorem prefix_any (b len cap : Nat) (c : Nat → Int) (w : World) (hs : len ≤ 1048576) (S : Sh) (hS : Ok c len S)
    (hcell : ∀ j, j < len → w.cell? ⟨b, j, none⟩ = some (.int .u8 (c j))) (hb : ∀ j, 0 ≤ c j ∧ c j ≤ 255) :
    Calls Try.prog 10 #[.slice (some ⟨b, 0, none⟩) len cap] w fun e w' => e = .returned (.int .i64 S.N) ∧ w = w' := by
  have HC : Hid (∀ j, j < len → w.cell? ⟨b, j, none⟩ = some (.int .u8 (c j))) := hcell
  have HB : Hid (∀ j, 0 ≤ c j ∧ c j ≤ 255) := hb
  clear hcell hb
  go_enter Try.func10, Try.ntmps10
  go_wp2
  go_loop [3, 4] (fun s i => ∃ k : Nat, k ≤ len ∧ i = .int .i64 k ∧ s = .int .i64 (aut c k) ∧ 0 ≤ aut c k ∧ aut c k ≤ 4) (fun _ i => len - (intOf i).toNat)
  case atStart => exact ⟨0, by omega, rfl, rfl, by simp [aut], by simp [aut]⟩
  case round =>
    obtain ⟨k, hk, rfl, rfl, h0, h4⟩ := hrel
    by_cases hlt : k < len
    · have hg := HC.out k hlt
      have hbk := HB.out k
      have hsb := stp_bd (aut c k) (c k)
      have HS : Hid (aut c (k + 1) = stp (aut c k) (c k)) := aut_succ c k
      by_cases hneg : stp (aut c k) (c k) < 0
      · go_wp2_with (go_at_call 17; refine (rnStep_any _ _ ⟨h0, h4⟩ hbk _).mono ?_; rintro e w' ⟨rfl, rfl⟩)
        go_ret
        exact ⟨ret_int (by rw [longest hS hk h0 (.inr (by rw [HS.out]; exact hneg))]), rfl⟩
      · go_wp2_with (go_at_call 17; refine (rnStep_any _ _ ⟨h0, h4⟩ hbk _).mono ?_; rintro e w' ⟨rfl, rfl⟩)
        go_round
        case rel => exact ⟨k + 1, by omega, by go_num, by rw [HS.out], by rw [HS.out]; omega, by rw [HS.out]; omega⟩
        case measure => simp [intOf]; omega
    · have : k = len := by omega
      subst this
      go_wp2
      go_ret
      exact ⟨ret_int (by rw [← longest hS hk h0 (.inl rfl)]), rfl⟩

/-- What readNumber has made: the boxed slice, the number, the place. -/
def St (w : World) (b len cap : Nat) (neg : Bool) (wh fr ze ex n : Int) : World :=
  ((w.alloc (.cells #[.slice (some ⟨b, 0, none⟩) len cap] 22)).alloc (.cells #[.bool neg, .int .i64 wh, .int .i64 fr, .int .i64 ze, .int .i64 ex] 34)).alloc (.cells #[.int .i64 n] 3)

theorem St_old {w : World} {b len cap : Nat} {neg : Bool} {wh fr ze ex n : Int} {bo o : Nat} (h : bo < w.heap.size) : (St w b len cap neg wh fr ze ex n).cell? ⟨bo, o, none⟩ = w.cell? ⟨bo, o, none⟩ :=
  ((((Below.refl w.heap.size w).alloc (Nat.le_refl _) _).alloc (by simp) _).alloc (by simp; omega) _).cell h
set_option maxHeartbeats 800000 in
theorem digits_any (b len cap : Nat) (c : Nat → Int) (w : World) (neg : Bool) (wh fr ze ex : Int) (n : Nat) (hs : len ≤ 1048576) (hn : n ≤ len) (hbw : b < w.heap.size)
    (hcell : ∀ j, j < len → w.cell? ⟨b, j, none⟩ = some (.int .u8 (c j))) (hb : ∀ j, 0 ≤ c j ∧ c j ≤ 255) :
    Calls Try.prog 20 #[.pointer (some ⟨w.heap.size + 2, 0, none⟩), .pointer (some ⟨w.heap.size, 0, none⟩)] (St w b len cap neg wh fr ze ex n) fun e w' => ∃ m : Nat, e = .returned (.int .i64 ((m : Int) - n)) ∧ Run c len n m ∧ St w b len cap neg wh fr ze ex m = w' := by
  have HC : Hid (∀ j, j < len → w.cell? ⟨b, j, none⟩ = some (.int .u8 (c j))) := hcell
  have HB : Hid (∀ j, 0 ≤ c j ∧ c j ≤ 255) := hb
  clear hcell hb
  unfold St
  go_enter Try.func20, Try.ntmps20
  go_wp2
  go_loopg [] (len - n) (fun g wr => ∃ m : Nat, g = len - m ∧ n ≤ m ∧ m ≤ len ∧ (∀ j, n ≤ j → j < m → 48 ≤ c j ∧ c j ≤ 57) ∧ wr = ((w.alloc (.cells #[.slice (some ⟨b, 0, none⟩) len cap] 22)).alloc (.cells #[.bool neg, .int .i64 wh, .int .i64 fr, .int .i64 ze, .int .i64 ex] 34)).alloc (.cells #[.int .i64 (m : Int)] 3))
  case atStart => exact ⟨n, rfl, by omega, hn, fun j h1 h2 => absurd h1 (by omega), rfl⟩
  case round =>
    obtain ⟨m, rfl, hnm, hml, hdig, rfl⟩ := hrel
    have HD : Hid (∀ j, n ≤ j → j < m → 48 ≤ c j ∧ c j ≤ 57) := hdig
    clear hdig
    by_cases hlt : m < len
    · have hg : (((w.alloc (.cells #[.slice (some ⟨b, 0, none⟩) len cap] 22)).alloc (.cells #[.bool neg, .int .i64 wh, .int .i64 fr, .int .i64 ze, .int .i64 ex] 34)).alloc (.cells #[.int .i64 (m : Int)] 3)).cell? ⟨b, m, none⟩ = some (.int .u8 (c m)) := (St_old hbw).trans (HC.out m hlt)
      have hbm := HB.out m
      by_cases hd : 48 ≤ c m ∧ c m ≤ 57
      · go_wp2_with (go_at_call 21; refine (isDigit_yes _ _ hd).mono ?_; rintro e w' ⟨rfl, rfl⟩)
        go_roundg (len - (m + 1))
        case measure => omega
        case rel => exact ⟨m + 1, rfl, by omega, by omega, fun j h1 h2 => by
            by_cases e : j = m
            · subst e; exact hd
            · exact HD.out j h1 (by omega), rfl⟩
      · have hd' : c m < 48 ∨ 57 < c m := by omega
        go_wp2_with (go_at_call 21; refine (isDigit_no _ _ hd').mono ?_; rintro e w' ⟨rfl, rfl⟩)
        go_ret
        exact ⟨m, rfl, ⟨hnm, hml, HD.out, .inr hd'⟩, rfl⟩
    · go_wp2
      go_ret
      exact ⟨m, rfl, ⟨hnm, hml, HD.out, .inl (by omega)⟩, rfl⟩
end Go.Proofs.Qxb6602665a
