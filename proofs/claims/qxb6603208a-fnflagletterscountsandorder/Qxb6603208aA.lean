/- flagLetters by its contract. -/
import Derived.Test.Qxb6603208aRows
import Derived.WalkKit
import Derived.WalkSpells
import Derived.WalkLawsBesides
import Derived.ProofKit
import Derived.OwnWalk
import Derived.Laws.OwnMore
import Derived.Laws.BytesArg
import Derived.Laws.BitsLemmas
import Derived.Deep.LoopGhost
import Derived.Maps.AppendAt
namespace Go.Proofs.Qxb6603208a
open Go.RowKit
set_option linter.unusedVariables false
theorem FlInfo5 : (Try.prog.info? 5).map (fun i => (i.zero, i.size, i.bytes)) = some (some (.int .u8 0), 1, 1) := by kernel_rfl
theorem ret_int {k : IntKind} {a b : Int} (h : a = b) : Ending.returned (.int k a) = .returned (.int k b) := by rw [h]
theorem ret_bool {a b : Bool} (h : a = b) : Ending.returned (.bool a) = .returned (.bool b) := by rw [h]

/-- Is the bit of place k, from the highest down, set? -/
def bitB (f : Int) (k : Nat) : Bool := bits .and .u8 f (128 / 2 ^ min k 8) != 0
/-- The letters of the set bits among the first k. -/
def sel (f : Int) (s : ByteArray) : Nat → List UInt8
  | 0 => []
  | k + 1 => if bitB f k then sel f s k ++ [s.data.toList.getD k 0] else sel f s k
theorem sel_yes {f : Int} {s : ByteArray} {k : Nat} (h : bitB f k = true) : sel f s (k + 1) = sel f s k ++ [s.data.toList.getD k 0] := by rw [sel, if_pos h]
theorem sel_no {f : Int} {s : ByteArray} {k : Nat} (h : bitB f k = false) : sel f s (k + 1) = sel f s k := by rw [sel, if_neg (by simp [h])]
theorem sel_len (f : Int) (s : ByteArray) (k : Nat) : (sel f s k).length ≤ k := by
  induction k with
  | zero => simp [sel]
  | succ n ih =>
    cases h : bitB f n
    · rw [sel_no h]; omega
    · rw [sel_yes h]; simp; exact ih
/-- What flagLetters answers. -/
def outL (f : Int) (s : ByteArray) : List UInt8 := if sel f s s.size = [] then [45] else sel f s s.size
theorem at_getD (s : ByteArray) (k : Nat) (h : k < s.size) : s[k] = s.data.toList.getD k 0 := by
  have h' : k < s.data.toList.length := by rw [Array.length_toList]; exact h
  rw [List.getD_eq_getElem?_getD, List.getElem?_eq_getElem h']
  rfl

/-- The bytes as cells. -/
def cellsOf (l : List UInt8) : List Value := l.map fun b => Value.int .u8 b.toNat
theorem cellsOf_append (a b : List UInt8) : cellsOf (a ++ b) = cellsOf a ++ cellsOf b := by simp [cellsOf]
def Buf (w : World) (v : Value) (l : List UInt8) (wr : World) : Prop := wr.ownsRow w.heap.size 5 1 v l.length (cellsOf l) ∧ Below w.heap.size w wr
theorem Buf.more {w wr w1 : World} {v v' : Value} {l : List UInt8} {x : UInt8} {o : Obj} (h : Buf w v l wr) (hown : w1.ownsRow w.heap.size 5 1 v' (l.length + 1) (cellsOf l ++ [.int .u8 x.toNat])) (hg : (wr.alloc o).grownBy w1 v.ownBlock) : Buf w v' (l ++ [x]) w1 := by
  refine ⟨by rw [List.length_append, cellsOf_append]; exact hown, ?_⟩
  exact (h.2.alloc h.2.size o).grown hg (by have := h.2.size; simp; omega) (fun k hk => (h.1.lt k hk).1)
def nums (l : List UInt8) : List Int := l.map fun b => (b.toNat : Int)
theorem nums_back (l : List UInt8) : ((nums l).map fun n => UInt8.ofNat n.toNat) = l := by
  unfold nums
  rw [List.map_map]
  have : ((fun n : Int => UInt8.ofNat n.toNat) ∘ fun b : UInt8 => (b.toNat : Int)) = id := by
    funext b; simp
  rw [this]; simp
theorem Buf.form {w wr : World} {v : Value} {l : List UInt8} (h : Buf w v l wr) (hl : l ≠ []) :
    ∃ g n cap, n = l.length ∧ v = .slice (some ⟨g, 0, none⟩) n cap ∧ ∀ i, i < n → wr.cell? ⟨g, 0 + i, none⟩ = some (.int .u8 ((nums l).getD i 0)) := by
  rcases h.1.2 with ⟨_, h0⟩ | ⟨g, cap, cur, hv, _⟩
  · exact absurd (List.length_eq_zero_iff.1 h0) hl
  · refine ⟨g, l.length, cap, rfl, hv, fun i hi => ?_⟩
    have h1 := h.1
    rw [hv] at h1
    rw [Nat.zero_add, h1.cellAt i (by omega)]
    simp [cellsOf, nums, List.getElem?_eq_getElem hi]
theorem Buf.empty {w wr : World} {v : Value} (h : Buf w v [] wr) : v = .slice none 0 0 ∨ ∃ g cap, v = .slice (some ⟨g, 0, none⟩) 0 cap := by
  rcases h.1.2 with ⟨hv, h0⟩ | ⟨g, cap, cur, hv, _⟩
  · exact .inl hv
  · exact .inr ⟨g, cap, hv⟩

set_option maxHeartbeats 1000000 in
theorem flags_any (f : Int) (s : ByteArray) (w : World) (hf : 0 ≤ f ∧ f ≤ 255) (hs : s.size ≤ 1048576) :
    Calls Try.prog 25 #[.int .u8 f, .string s] w fun e w' => ∃ r : ByteArray, e = .returned (.string r) ∧ Hid (r.data.toList = outL f s) ∧ Below w.heap.size w w' := by
  obtain ⟨i0, hi, hz0, hz1, hz2⟩ := info_parts FlInfo5
  go_enter Try.func25, Try.ntmps25
  go_wp2
  go_loopg [5, 9] s.size (fun g v i wr => ∃ k : Nat, g = s.size - k ∧ k ≤ s.size ∧ i = .int .i64 (k : Int) ∧ Buf w v (sel f s k) wr)
  case atStart => exact ⟨0, rfl, by omega, rfl, World.ownsRow_nil _ _ _ _, Below.refl _ _⟩
  case round =>
    obtain ⟨k, rfl, hk, rfl, hbuf⟩ := hrel
    have hl := sel_len f s k
    by_cases hlt : k < s.size
    · have hown := hbuf.1
      have hsz := hbuf.2.size
      have hat : s[k] = s.data.toList.getD k 0 := at_getD s k hlt
      have HA : Hid (s[k] = s.data.toList.getD k 0) := hat
      clear hat
      cases hb : bitB f k
      · have HS : Hid (sel f s (k + 1) = sel f s k) := sel_no hb
        have hb' : (bits .and .u8 f (128 / 2 ^ min k 8) != 0) = false := hb
        clear hb
        go_wp2
        go_roundg (s.size - (k + 1))
        case measure => omega
        case rel => exact ⟨k + 1, rfl, by omega, by go_num, by rw [HS.out]; exact hbuf⟩
      · have HS : Hid (sel f s (k + 1) = sel f s k ++ [s.data.toList.getD k 0]) := sel_yes hb
        have hb' : (bits .and .u8 f (128 / 2 ^ min k 8) != 0) = true := hb
        clear hb
        go_wp2_with (at_builtin; refine wpList_append_own _ rfl _ _ 32 rfl w.heap.size 5 i0 (.int .u8 0) 1 1 Try.underlying32 hi hz0 hz1 hz2 rfl (by decide) u5 _ _ rfl (hown.alloc _) ⟨wr.heap.size, 0, none⟩ 1 1 _ rfl rfl (cell_one_new _ _ _) (by intro u hu; simp at hu; subst hu; rfl) (by unfold maxLen; omega) (by omega) (by simp; omega) ?_; intro v' w1 hown1 hgrow1 hn1)
        have hb1 := hbuf.more hown1 hgrow1
        rw [HA.out, ← HS.out] at hb1
        clear hown1 hgrow1 hn1 hbuf hown
        go_roundg (s.size - (k + 1))
        case measure => omega
        case rel => exact ⟨k + 1, rfl, by omega, by go_num, hb1⟩
    · have hke : k = s.size := by omega
      subst hke
      have hbel := hbuf.2
      by_cases he : sel f s s.size = []
      · have HO : Hid (([45] : List UInt8) = outL f s) := by show _ = _; unfold outL; rw [if_pos he]
        rw [he] at hbuf
        rcases hbuf.empty with hv | ⟨g, cap, hv⟩
        all_goals
          subst hv
          clear hbuf he hl
          go_wp2
          go_ret
          exact ⟨_, rfl, HO, hbel⟩
      · have HO : Hid (sel f s s.size = outL f s) := by show _ = _; unfold outL; rw [if_neg he]
        obtain ⟨g, nl, cap, hnl, hv, hcells⟩ := hbuf.form he
        subst hv
        have hpos : 0 < nl := by
          rw [hnl]
          exact List.length_pos_iff.2 he
        have hnb : nl ≤ 1048576 := by omega
        have hcv := run_convert_bytes_arg wr 32 5 Try.underlying32 Try.underlying5 g 0 nl cap (nums (sel f s s.size)) (by simp [nums, hnl]) hcells 9 Try.underlying9
        have HR : Hid ((strOfNums (nums (sel f s s.size))).data.toList = outL f s) := by
          show _ = _
          rw [strOfNums_data, nums_back, HO.out]
        clear hbuf hcells he hnl hl HO
        go_wp2
        go_ret
        exact ⟨_, rfl, HR, hbel⟩

theorem zzFlags_any (f : Int) (s : ByteArray) (w : World) (hf : 0 ≤ f ∧ f ≤ 255) (hs : s.size ≤ 1048576) :
    Calls Try.prog 10 #[.int .u8 f, .string s] w fun e w' => ∃ r : ByteArray, e = .returned (.string r) ∧ Hid (r.data.toList = outL f s) ∧ Below w.heap.size w w' := by
  go_enter Try.func10, Try.ntmps10
  go_wp2_with fail
  refine (flags_any f s w hf hs).mono ?_
  rintro e w' ⟨r, rfl, hr, hbel⟩
  go_wp2
  go_ret
  exact ⟨_, rfl, hr, hbel⟩
end Go.Proofs.Qxb6603208a
