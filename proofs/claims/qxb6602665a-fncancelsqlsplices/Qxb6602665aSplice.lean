/- The law FnCancelSQLSplices: its walk. -/
import Derived.Test.Qxb6602665aSql
import Derived.Maps.AppendAt
import Derived.OwnWalk
import Derived.Lib.AppendStr
import Derived.Laws.BytesArg
namespace Go.Proofs.Qxb6602665a
open Go.RowKit
set_option linter.unusedVariables false
theorem SqlInfo5 : (Try.prog.info? 5).map (fun i => (i.zero, i.size, i.bytes)) = some (some (.int .u8 0), 1, 1) := by kernel_rfl

theorem take_snoc (s : ByteArray) (k : Nat) (h : k < s.size) : s.data.toList.take (k + 1) = s.data.toList.take k ++ [s[k]] := by
  rw [List.take_succ_eq_append_getElem (by simpa using h)]; rfl

theorem two_not : (({ data := #[2] } : ByteArray).toList == [115, 99, 104, 101, 100, 117, 108, 101, 100]) = false := by
  rw [ByteArray.toList_eq]; decide
theorem u8_is (x a : UInt8) (h : ((x.toNat : Int) == (a.toNat : Int)) = true) : x = a := by
  have : (x.toNat : Int) = a.toNat := by simpa using h
  exact UInt8.toNat_inj.1 (by omega)
theorem u8_not (x a : UInt8) (h : ((x.toNat : Int) == (a.toNat : Int)) = false) : x ≠ a := by
  rintro rfl
  simp at h
theorem way_a (s : ByteArray) (k : Nat) (hk : k < s.size) (h : ((s[k].toNat : Int) == 1) = true) :
    cnt 1 (s.data.toList.take (k + 1)) = cnt 1 (s.data.toList.take k) + 1 ∧ cnt 2 (s.data.toList.take (k + 1)) = cnt 2 (s.data.toList.take k) ∧ ∀ T S, fill T S (s.data.toList.take (k + 1)) = fill T S (s.data.toList.take k) ++ T := by
  have e : s[k] = 1 := u8_is _ 1 h
  rw [take_snoc s k hk, cnt_snoc, cnt_snoc, e]
  refine ⟨rfl, rfl, fun T S => ?_⟩
  rw [fill_append]; simp [fill]
theorem way_b (s : ByteArray) (k : Nat) (hk : k < s.size) (h : ((s[k].toNat : Int) == 2) = true) :
    cnt 1 (s.data.toList.take (k + 1)) = cnt 1 (s.data.toList.take k) ∧ cnt 2 (s.data.toList.take (k + 1)) = cnt 2 (s.data.toList.take k) + 1 ∧ ∀ T S, fill T S (s.data.toList.take (k + 1)) = fill T S (s.data.toList.take k) ++ S := by
  have e : s[k] = 2 := u8_is _ 2 h
  rw [take_snoc s k hk, cnt_snoc, cnt_snoc, e]
  refine ⟨rfl, rfl, fun T S => ?_⟩
  rw [fill_append]; simp [fill]
theorem way_c (s : ByteArray) (k : Nat) (hk : k < s.size) (h1 : ((s[k].toNat : Int) == 1) = false) (h2 : ((s[k].toNat : Int) == 2) = false) :
    cnt 1 (s.data.toList.take (k + 1)) = cnt 1 (s.data.toList.take k) ∧ cnt 2 (s.data.toList.take (k + 1)) = cnt 2 (s.data.toList.take k) ∧ ∀ T S, fill T S (s.data.toList.take (k + 1)) = fill T S (s.data.toList.take k) ++ [s[k]] := by
  have e1 : s[k] ≠ 1 := u8_not _ 1 h1
  have e2 : s[k] ≠ 2 := u8_not _ 2 h2
  rw [take_snoc s k hk, cnt_snoc, cnt_snoc, if_neg e1, if_neg e2]
  refine ⟨rfl, rfl, fun T S => ?_⟩
  rw [fill_append]; simp [fill, e1, e2]

/-- The bytes as cells. -/
def cellsOf (l : List UInt8) : List Value := l.map fun b => Value.int .u8 b.toNat
theorem cellsOf_append (a b : List UInt8) : cellsOf (a ++ b) = cellsOf a ++ cellsOf b := by simp [cellsOf]
theorem cellsOf_length (l : List UInt8) : (cellsOf l).length = l.length := by simp [cellsOf]

theorem wholly (s : ByteArray) (k : Nat) (h : ¬ k < s.size) : s.data.toList.take k = s.data.toList := List.take_of_length_le (by rw [Array.length_toList]; show s.data.size ≤ k; have : s.size = s.data.size := rfl; omega)

/-- The buffer: it owns the filled bytes; nothing old has turned. -/
def Buf (w : World) (v : Value) (l : List UInt8) (wr : World) : Prop := wr.ownsRow w.heap.size 5 1 v l.length (cellsOf l) ∧ Below w.heap.size w wr
theorem Buf.more {w wr wx w1 : World} {v v' : Value} {l m : List UInt8} {o : Option Obj} (h : Buf w v l wr) (hx : wx = (match o with | none => wr | some o => wr.alloc o)) (hown : w1.ownsRow w.heap.size 5 1 v' (l.length + m.length) (cellsOf l ++ cellsOf m)) (hg : wx.grownBy w1 v.ownBlock) : Buf w v' (l ++ m) w1 := by
  refine ⟨by rw [List.length_append, cellsOf_append]; exact hown, ?_⟩
  have hb : Below w.heap.size w wx := by
    subst hx
    cases o with
    | none => exact h.2
    | some o => exact h.2.alloc h.2.size o
  exact hb.grown hg hb.size (fun k hk => (h.1.lt k hk).1)

def nums (l : List UInt8) : List Int := l.map fun b => (b.toNat : Int)
theorem nums_back (l : List UInt8) : ((nums l).map fun n => UInt8.ofNat n.toNat) = l := by
  unfold nums
  rw [List.map_map]
  have : ((fun n : Int => UInt8.ofNat n.toNat) ∘ fun b : UInt8 => (b.toNat : Int)) = id := by
    funext b; simp
  rw [this]; simp
theorem Buf.form {w wr : World} {v : Value} {l : List UInt8} (h : Buf w v l wr) (hl : l ≠ []) :
    ∃ g n cap, n = l.length ∧ v = .slice (some ⟨g, 0, none⟩) n cap ∧ ∀ i, i < n → wr.cell? ⟨g, 0 + i, none⟩ = some (.int .u8 ((nums l).getD i 0)) := by
  rcases h.1.2 with ⟨_, h0⟩ | ⟨g, cap, cur, hv, _⟩
  · exact absurd (List.length_eq_zero_iff.1 h0) hl
  · refine ⟨g, l.length, cap, rfl, hv, fun i hi => ?_⟩
    have h1 := h.1
    rw [hv] at h1
    rw [Nat.zero_add, h1.cellAt i (by omega)]
    simp [cellsOf, nums, List.getElem?_eq_getElem hi]
theorem fill_ne (T S : List UInt8) (sch wait : Bool) : fill T S (tpl sch wait) ≠ [] := by
  cases sch
  · rw [fill_tpl]; exact List.append_ne_nil_of_left_ne_nil (List.cons_ne_nil _ _) _
  · rw [fill_tplS]; cases wait <;> exact List.append_ne_nil_of_left_ne_nil (List.cons_ne_nil _ _) _

set_option maxHeartbeats 1600000 in
set_option maxRecDepth 100000 in
theorem cs_walk (t s : ByteArray) (wait sch : Bool) (ht : t.size ≤ 65536) (hs : s.size ≤ 65536) (w : World) (hsch : (s.toList == [115, 99, 104, 101, 100, 117, 108, 101, 100]) = sch) :
    Calls Try.prog 6 #[.string t, .string s, .bool wait] w fun e w' => e = .returned (.bool true) ∧ Below w.heap.size w w' := by
  obtain ⟨i0, hi, hz0, hz1, hz2⟩ := info_parts SqlInfo5
  cases sch
  · go_enter Try.func6, Try.ntmps6
    go_wp2_with (go_at_call 15; refine (zzBytesCS _ _ _ _ ht hs).mono ?_; rintro e w' ⟨rfl, rfl⟩)
    refine (zzCancel_any _ _ _ false _ (by decide) (by decide) two_not).mono ?_
    rintro e w' ⟨r1, rfl, hr1, rfl⟩
    go_wp2_with fail
    refine (zzCancel_any _ _ _ false _ ht hs hsch).mono ?_
    rintro e w' ⟨r2, rfl, hr2, rfl⟩
    have HL : Hid (r1.data.toList = tpl false wait) := hr1.out.trans (fill_self _)
    have hn : r1.size ≤ 700 := by
      have := congrArg List.length HL.out
      rw [Array.length_toList] at this
      show r1.data.size ≤ 700
      rw [this]; exact tpl_len _ _
    clear hr1
    go_wp2_with fail
    go_loop [11, 12, 13] (fun a b i => ∃ k : Nat, k ≤ r1.size ∧ i = .int .i64 k ∧ a = .int .i64 (cnt 1 (r1.data.toList.take k)) ∧ b = .int .i64 (cnt 2 (r1.data.toList.take k))) (fun _ _ i => r1.size - (intOf i).toNat)
    case atStart => exact ⟨0, by omega, rfl, rfl, rfl⟩
    case round =>
      obtain ⟨k, hk, rfl, rfl, rfl⟩ := hrel
      have n1 := cnt_le 1 (r1.data.toList.take k)
      have n2 := cnt_le 2 (r1.data.toList.take k)
      have hl : (r1.data.toList.take k).length ≤ k := List.length_take_le _ _
      by_cases hlt : k < r1.size
      · go_wp2
        · have R := way_a r1 k hlt ‹_›
          go_round
          case rel => exact ⟨k + 1, by omega, by go_num, by rw [R.1]; go_num, by rw [R.2.1]⟩
          case measure => simp [intOf]; omega
        · have R := way_b r1 k hlt ‹_›
          go_round
          case rel => exact ⟨k + 1, by omega, by go_num, by rw [R.1], by rw [R.2.1]; go_num⟩
          case measure => simp [intOf]; omega
        · have R := way_c r1 k hlt ‹_› ‹_›
          go_round
          case rel => exact ⟨k + 1, by omega, by go_num, by rw [R.1], by rw [R.2.1]⟩
          case measure => simp [intOf]; omega
      · have hC := cnt_tpl wait
        rw [wholly r1 k hlt, HL.out, hC.1, hC.2]
        clear n1 n2 hl hC
        go_wp2_with (at_make; refine wpList_make_own _ rfl _ _ 22 rfl w.heap.size 5 i0 (.int .u8 0) 1 Try.underlying22 hi hz0 hz1 _ _ _ (r1.size + 2 * t.size + s.size) rfl rfl (by omega) ?b2 ?b3 (Nat.le_refl _) ?_)
        case b2 => (try rw [hz2]); omega
        case b3 => unfold maxLen; omega
        intro w0' hown0 hgrow0
        have hb0 : Buf w (.slice (some ⟨w.heap.size, 0, none⟩) 0 (r1.size + 2 * t.size + s.size)) [] w0' := ⟨hown0, (Below.refl _ _).grown hgrow0 (Nat.le_refl _) (fun k h => by cases h)⟩
        clear hown0 hgrow0
        go_wp2
        go_loopw [14, 15] (fun v i wr => ∃ k : Nat, k ≤ r1.size ∧ i = .int .i64 k ∧ Buf w v (fill t.data.toList s.data.toList (r1.data.toList.take k)) wr) (fun _ i _ => r1.size - (intOf i).toNat)
        case atStart => exact ⟨0, by omega, rfl, hb0⟩
        case round =>
          clear hb0
          obtain ⟨k, hk, rfl, hbuf⟩ := hrel
          have hown := hbuf.1
          have hsz := hbuf.2.size
          have hfl := fill_len t.data.toList s.data.toList (r1.data.toList.take k) ht hs
          have hl : (r1.data.toList.take k).length ≤ k := List.length_take_le _ _
          have hfb : (fill t.data.toList s.data.toList (r1.data.toList.take k)).length ≤ 45875200 := by omega
          clear hfl hl
          by_cases hlt : k < r1.size
          · go_wp2_with (first
              | (at_builtin; refine Lib.wpList_append_own_string _ rfl (.tmp 98) (.tmp 99) 22 9 rfl w.heap.size 5 i0 Try.underlying22 Try.underlying9 hi hz0 hz1 hz2 u14 _ _ rfl hown t rfl (by unfold maxLen; omega) (by omega) hsz ?_; intro v' w1 hown1 hgrow1 hn1)
              | (at_builtin; refine Lib.wpList_append_own_string _ rfl (.tmp 103) (.tmp 104) 22 9 rfl w.heap.size 5 i0 Try.underlying22 Try.underlying9 hi hz0 hz1 hz2 u14 _ _ rfl hown s rfl (by unfold maxLen; omega) (by omega) hsz ?_; intro v' w1 hown1 hgrow1 hn1)
              | (at_builtin; refine wpList_append_own _ rfl (.tmp 90) (.tmp 94) 22 rfl w.heap.size 5 i0 (.int .u8 0) 1 1 Try.underlying22 hi hz0 hz1 hz2 rfl (by decide) u14 _ _ rfl (hown.alloc _) ⟨wr.heap.size, 0, none⟩ 1 1 _ rfl rfl (cell_one_new _ _ _) (by intro u hu; simp at hu; subst hu; rfl) (by unfold maxLen; omega) (by omega) (by simp; omega) ?_; intro v' w1 hown1 hgrow1 hn1))
            · have R := way_a r1 k hlt ‹_›
              have hb1 := hbuf.more (m := t.data.toList) (o := none) rfl hown1 hgrow1
              rw [← R.2.2] at hb1
              clear hown1 hgrow1 hn1 hbuf hown R
              go_roundw
              case rel => exact ⟨k + 1, by omega, by go_num, hb1⟩
              case measure => simp [intOf]; omega
            · have R := way_b r1 k hlt ‹_›
              have hb1 := hbuf.more (m := s.data.toList) (o := none) rfl hown1 hgrow1
              rw [← R.2.2] at hb1
              clear hown1 hgrow1 hn1 hbuf hown R
              go_roundw
              case rel => exact ⟨k + 1, by omega, by go_num, hb1⟩
              case measure => simp [intOf]; omega
            · have R := way_c r1 k hlt ‹_› ‹_›
              have hb1 := hbuf.more (m := [r1[k]]) (o := some _) rfl hown1 hgrow1
              rw [← R.2.2] at hb1
              clear hown1 hgrow1 hn1 hbuf hown R
              go_roundw
              case rel => exact ⟨k + 1, by omega, by go_num, hb1⟩
              case measure => simp [intOf]; omega
          · have hk2 : fill t.data.toList s.data.toList (r1.data.toList.take k) = r2.data.toList := by
              rw [wholly r1 k hlt, HL.out, hr2.out]
            rw [hk2] at hbuf
            have hbel := hbuf.2
            have hlen : r2.data.toList ≠ [] := by rw [hr2.out]; exact fill_ne _ _ _ _
            obtain ⟨g, nl, cap, hnl, hv, hcells⟩ := hbuf.form hlen
            subst hv
            have hcv := run_convert_bytes_arg wr 22 5 Try.underlying22 Try.underlying5 g 0 nl cap (nums r2.data.toList) (by simp [nums, hnl]) hcells 9 Try.underlying9
            clear hbuf hown hk2 hcells hfb hlen HL hr2 hnl
            go_wp2
            go_ret
            refine ⟨?_, hbel⟩
            rw [ByteArray.toList_eq, ByteArray.toList_eq, strOfNums_data, nums_back]
            simp
  · go_enter Try.func6, Try.ntmps6
    go_wp2_with (go_at_call 15; refine (zzBytesCS _ _ _ _ ht hs).mono ?_; rintro e w' ⟨rfl, rfl⟩)
    refine (zzCancel_any _ _ _ true _ (by decide) hs hsch).mono ?_
    rintro e w' ⟨r1, rfl, hr1, rfl⟩
    go_wp2_with fail
    refine (zzCancel_any _ _ _ true _ ht hs hsch).mono ?_
    rintro e w' ⟨r2, rfl, hr2, rfl⟩
    have HL : Hid (r1.data.toList = tpl true wait) := hr1.out.trans (fill_selfS _ _)
    have hn : r1.size ≤ 700 := by
      have := congrArg List.length HL.out
      rw [Array.length_toList] at this
      show r1.data.size ≤ 700
      rw [this]; exact tpl_len _ _
    clear hr1
    go_wp2_with fail
    go_loop [11, 12, 13] (fun a b i => ∃ k : Nat, k ≤ r1.size ∧ i = .int .i64 k ∧ a = .int .i64 (cnt 1 (r1.data.toList.take k)) ∧ b = .int .i64 (cnt 2 (r1.data.toList.take k))) (fun _ _ i => r1.size - (intOf i).toNat)
    case atStart => exact ⟨0, by omega, rfl, rfl, rfl⟩
    case round =>
      obtain ⟨k, hk, rfl, rfl, rfl⟩ := hrel
      have n1 := cnt_le 1 (r1.data.toList.take k)
      have n2 := cnt_le 2 (r1.data.toList.take k)
      have hl : (r1.data.toList.take k).length ≤ k := List.length_take_le _ _
      by_cases hlt : k < r1.size
      · go_wp2
        · have R := way_a r1 k hlt ‹_›
          go_round
          case rel => exact ⟨k + 1, by omega, by go_num, by rw [R.1]; go_num, by rw [R.2.1]⟩
          case measure => simp [intOf]; omega
        · have R := way_b r1 k hlt ‹_›
          go_round
          case rel => exact ⟨k + 1, by omega, by go_num, by rw [R.1], by rw [R.2.1]; go_num⟩
          case measure => simp [intOf]; omega
        · have R := way_c r1 k hlt ‹_› ‹_›
          go_round
          case rel => exact ⟨k + 1, by omega, by go_num, by rw [R.1], by rw [R.2.1]⟩
          case measure => simp [intOf]; omega
      · have hC := cnt_tplS wait
        rw [wholly r1 k hlt, HL.out, hC.1, hC.2]
        clear n1 n2 hl hC
        go_wp2_with (at_make; refine wpList_make_own _ rfl _ _ 22 rfl w.heap.size 5 i0 (.int .u8 0) 1 Try.underlying22 hi hz0 hz1 _ _ _ (r1.size + 2 * t.size + s.size) rfl rfl (by omega) ?b2 ?b3 (Nat.le_refl _) ?_)
        case b2 => (try rw [hz2]); omega
        case b3 => unfold maxLen; omega
        intro w0' hown0 hgrow0
        have hb0 : Buf w (.slice (some ⟨w.heap.size, 0, none⟩) 0 (r1.size + 2 * t.size + s.size)) [] w0' := ⟨hown0, (Below.refl _ _).grown hgrow0 (Nat.le_refl _) (fun k h => by cases h)⟩
        clear hown0 hgrow0
        go_wp2
        go_loopw [14, 15] (fun v i wr => ∃ k : Nat, k ≤ r1.size ∧ i = .int .i64 k ∧ Buf w v (fill t.data.toList s.data.toList (r1.data.toList.take k)) wr) (fun _ i _ => r1.size - (intOf i).toNat)
        case atStart => exact ⟨0, by omega, rfl, hb0⟩
        case round =>
          clear hb0
          obtain ⟨k, hk, rfl, hbuf⟩ := hrel
          have hown := hbuf.1
          have hsz := hbuf.2.size
          have hfl := fill_len t.data.toList s.data.toList (r1.data.toList.take k) ht hs
          have hl : (r1.data.toList.take k).length ≤ k := List.length_take_le _ _
          have hfb : (fill t.data.toList s.data.toList (r1.data.toList.take k)).length ≤ 45875200 := by omega
          clear hfl hl
          by_cases hlt : k < r1.size
          · go_wp2_with (first
              | (at_builtin; refine Lib.wpList_append_own_string _ rfl (.tmp 98) (.tmp 99) 22 9 rfl w.heap.size 5 i0 Try.underlying22 Try.underlying9 hi hz0 hz1 hz2 u14 _ _ rfl hown t rfl (by unfold maxLen; omega) (by omega) hsz ?_; intro v' w1 hown1 hgrow1 hn1)
              | (at_builtin; refine Lib.wpList_append_own_string _ rfl (.tmp 103) (.tmp 104) 22 9 rfl w.heap.size 5 i0 Try.underlying22 Try.underlying9 hi hz0 hz1 hz2 u14 _ _ rfl hown s rfl (by unfold maxLen; omega) (by omega) hsz ?_; intro v' w1 hown1 hgrow1 hn1)
              | (at_builtin; refine wpList_append_own _ rfl (.tmp 90) (.tmp 94) 22 rfl w.heap.size 5 i0 (.int .u8 0) 1 1 Try.underlying22 hi hz0 hz1 hz2 rfl (by decide) u14 _ _ rfl (hown.alloc _) ⟨wr.heap.size, 0, none⟩ 1 1 _ rfl rfl (cell_one_new _ _ _) (by intro u hu; simp at hu; subst hu; rfl) (by unfold maxLen; omega) (by omega) (by simp; omega) ?_; intro v' w1 hown1 hgrow1 hn1))
            · have R := way_a r1 k hlt ‹_›
              have hb1 := hbuf.more (m := t.data.toList) (o := none) rfl hown1 hgrow1
              rw [← R.2.2] at hb1
              clear hown1 hgrow1 hn1 hbuf hown R
              go_roundw
              case rel => exact ⟨k + 1, by omega, by go_num, hb1⟩
              case measure => simp [intOf]; omega
            · have R := way_b r1 k hlt ‹_›
              have hb1 := hbuf.more (m := s.data.toList) (o := none) rfl hown1 hgrow1
              rw [← R.2.2] at hb1
              clear hown1 hgrow1 hn1 hbuf hown R
              go_roundw
              case rel => exact ⟨k + 1, by omega, by go_num, hb1⟩
              case measure => simp [intOf]; omega
            · have R := way_c r1 k hlt ‹_› ‹_›
              have hb1 := hbuf.more (m := [r1[k]]) (o := some _) rfl hown1 hgrow1
              rw [← R.2.2] at hb1
              clear hown1 hgrow1 hn1 hbuf hown R
              go_roundw
              case rel => exact ⟨k + 1, by omega, by go_num, hb1⟩
              case measure => simp [intOf]; omega
          · have hk2 : fill t.data.toList s.data.toList (r1.data.toList.take k) = r2.data.toList := by
              rw [wholly r1 k hlt, HL.out, hr2.out]
            rw [hk2] at hbuf
            have hbel := hbuf.2
            have hlen : r2.data.toList ≠ [] := by rw [hr2.out]; exact fill_ne _ _ _ _
            obtain ⟨g, nl, cap, hnl, hv, hcells⟩ := hbuf.form hlen
            subst hv
            have hcv := run_convert_bytes_arg wr 22 5 Try.underlying22 Try.underlying5 g 0 nl cap (nums r2.data.toList) (by simp [nums, hnl]) hcells 9 Try.underlying9
            clear hbuf hown hk2 hcells hfb hlen HL hr2 hnl
            go_wp2
            go_ret
            refine ⟨?_, hbel⟩
            rw [ByteArray.toList_eq, ByteArray.toList_eq, strOfNums_data, nums_back]
            simp
end Go.Proofs.Qxb6602665a
