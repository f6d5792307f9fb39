/- The law FnFlagLettersCountsAndOrder: its walk. -/
import Derived.Test.Qxb6603208aC
import Derived.Deep.DeepCutAuto
import Derived.Deep.CutBlock
import Derived.Deep.QuietTactic
import Derived.BigQuiet
import Derived.OpenShut
namespace Go.Proofs.Qxb6603208a
open Go.RowKit
set_option linter.unusedVariables false

theorem popCount_any (x : Int) (n : Int) (h : pcs x 8 = n) (hx : 0 ≤ x ∧ x ≤ 255) (w : World) :
    Calls Try.prog 9 #[.int .u8 x] w fun e w' => e = .returned (.int .i64 n) ∧ w = w' := by
  have HN : Hid (pcs x 8 = n) := h
  clear h
  go_enter Try.func9, Try.ntmps9
  go_wp2
  go_loop [3, 4] (fun c i => ∃ k : Nat, k ≤ 8 ∧ i = .int .i64 (k : Int) ∧ c = .int .i64 (pcs x k)) (fun _ i => 8 - (intOf i).toNat)
  case atStart => exact ⟨0, by omega, rfl, rfl⟩
  case round =>
    obtain ⟨k, hk, rfl, rfl⟩ := hrel
    have hb := pcs_bd x k
    by_cases hlt : k < 8
    · have HS : Hid (pcs x (k + 1) = if bits .and .u8 (x / 2 ^ k) 1 == 1 then pcs x k + 1 else pcs x k) := by
        have := pcs_succ x k
        rw [Nat.min_eq_left (by omega)] at this
        exact this
      cases hbit : (bits .and .u8 (x / 2 ^ k) 1 == 1)
      · go_wp2
        go_round
        case rel => exact ⟨k + 1, by omega, by go_num, by rw [HS.out, hbit]; rfl⟩
        case measure => simp [intOf]; omega
      · go_wp2
        go_round
        case rel => exact ⟨k + 1, by omega, by go_num, by rw [HS.out, hbit]; rfl⟩
        case measure => simp [intOf]; omega
    · have hke : k = 8 := by omega
      subst hke
      go_wp2
      go_ret
      exact ⟨ret_int HN.out, rfl⟩

theorem zzBytesCo (a : Int) (s : ByteArray) (w : World) (h : s.size ≤ 1048576) :
    Calls Try.prog 8 #[.int .u8 a, .string s] w fun e w' => e = .returned (.bool true) ∧ w = w' := by
  go_enter Try.func8, Try.ntmps8
  go_wp2
  go_ret
  exact ⟨rfl, rfl⟩
theorem zzBytesCo_no (a : Int) (s : ByteArray) (w : World) (hs : s.size ≤ maxLen) (h : ¬ s.size ≤ 1048576) :
    Calls Try.prog 8 #[.int .u8 a, .string s] w fun e w' => e = .returned (.bool false) ∧ w = w' := by
  unfold maxLen at hs
  go_enter Try.func8, Try.ntmps8
  go_wp2
  go_ret
  exact ⟨rfl, rfl⟩

theorem bit_lt (f : Int) (i : Nat) (h : i < 8) : bitB f i = (bits .and .u8 f (128 / 2 ^ i) != 0) := by unfold bitB; rw [Nat.min_eq_left (by omega)]
theorem okF_bit {f : Int} {s : ByteArray} {i : Nat} (h : bitB f i = false) : okF f s (i + 1) = okF f s i := by rw [okF, h]; simp
theorem u8_45 (x : UInt8) : ((x.toNat : Int) == 45) = (x == 45) := by
  rw [Bool.eq_iff_iff, beq_iff_eq, beq_iff_eq]
  constructor
  · intro h; exact UInt8.toNat_inj.1 (by show x.toNat = 45; omega)
  · rintro rfl; rfl
theorem okF_let {f : Int} {s : ByteArray} {i : Nat} (hi : i < s.size) (h : (((s[i]).toNat : Int) == 45) = false) : okF f s (i + 1) = okF f s i := by
  rw [u8_45, at_getD s i hi] at h
  rw [okF, h]; simp
theorem okF_hit {f : Int} {s : ByteArray} {i : Nat} (hi : i < s.size) (hb : bitB f i = true) (h : (((s[i]).toNat : Int) == 45) = true) : okF f s (i + 1) = true := by
  rw [u8_45, at_getD s i hi] at h
  rw [okF, h, hb]; rfl
theorem greedy_yes {f : Int} {s : ByteArray} {i j : Nat} (hq : (sel f s i).length ≤ j) : (sel f s (i + 1)).length ≤ j + 1 := by
  cases hb : bitB f i
  · rw [sel_no hb]; omega
  · rw [sel_yes hb]; simp; omega
theorem greedy_no {f : Int} {s r : ByteArray} {i j K : Nat} (hi : i < s.size) (hj : j < r.size) (hK : i < K) (hT : r.data.toList = sel f s K) (hq : (sel f s i).length ≤ j)
    (h : (((s[i]).toNat : Int) == ((r[j]).toNat : Int)) = false) : (sel f s (i + 1)).length ≤ j := by
  cases hb : bitB f i
  · rw [sel_no hb]; exact hq
  · rw [sel_yes hb]
    simp only [List.length_append, List.length_singleton]
    by_cases e : (sel f s i).length = j
    · exfalso
      have h1 := sel_at f s i hb K hK
      rw [e, ← hT] at h1
      have h2 := at_getD r j hj
      have h3 := at_getD s i hi
      rw [List.getD_eq_getElem?_getD, h1] at h2
      simp only [Option.getD_some] at h2
      rw [h3, h2] at h
      simp at h
    · omega

set_option maxHeartbeats 4000000 in
set_option maxRecDepth 100000 in
theorem co_walk (f : Int) (s : ByteArray) (w : World) (hf : 0 ≤ f ∧ f ≤ 255) (hs : s.size ≤ 1048576) :
    Calls Try.prog 3 #[.int .u8 f, .string s] w fun e w' => e = .returned (.bool true) ∧ Below w.heap.size w w' := by
  obtain ⟨K, hK⟩ : ∃ K, K = kk s := ⟨_, rfl⟩
  have HK : Hid (K = kk s) := hK
  have hK8 : K ≤ 8 := by rw [hK]; exact (kk_le s).1
  have hKs : K ≤ s.size := by rw [hK]; exact (kk_le s).2
  have HKK : Hid ((s.size ≤ 8 → K = s.size) ∧ (8 < s.size → K = 8)) := by
    rw [hK]; unfold kk
    exact ⟨fun h => if_pos h, fun h => if_neg (by omega)⟩
  have HSEL : Hid (sel f s s.size = sel f s K) := by rw [hK]; exact sel_kk f s
  clear hK HK
  go_enter Try.func3, Try.ntmps3
  go_wp2_with fail
  refine (zzBytesCo _ _ _ hs).mono ?_
  rintro e w' ⟨rfl, rfl⟩
  -- how many letters count
  go_upto_if 24 with fail
  go_cut [5] (fun s5 wx => s5 = .int .i64 (K : Int) ∧ w = wx)
  case first =>
    by_cases h8 : 8 < s.size
    · have hk := HKK.out.2 h8
      subst hk
      go_wp2
      go_meet
      case rel => exact ⟨rfl, rfl⟩
    · have hk := HKK.out.1 (by omega)
      subst hk
      go_wp2
      go_meet
      case rel => exact ⟨rfl, rfl⟩
  case rest =>
  obtain ⟨rfl, rfl⟩ := hcut
  clear HKK
  -- the mask
  go_upto_block 0 with fail
  go_cut [6] (fun s6 wx => s6 = .int .u8 (mk K) ∧ w = wx)
  case first =>
    go_wp2_with fail
    go_loopg [6, 7] K (fun g s6 s7 wr => ∃ i : Nat, g = K - i ∧ i ≤ K ∧ s6 = .int .u8 (mk i) ∧ s7 = .int .i64 (i : Int) ∧ w = wr)
    case atStart => exact ⟨0, rfl, by omega, rfl, rfl, rfl⟩
    case round =>
      obtain ⟨i, rfl, hi, rfl, rfl, rfl⟩ := hrel
      by_cases hlt : i < K
      · have HM : Hid (bits .or .u8 (mk i) (128 / 2 ^ i) = mk (i + 1)) := by
          have := mk_step i (by omega)
          rw [Nat.min_eq_left (by omega)] at this
          exact this
        go_wp2
        go_roundg (K - (i + 1))
        case measure => omega
        case rel => exact ⟨i + 1, rfl, by omega, by rw [HM.out], by go_num, rfl⟩
      · have hie : i = K := by omega
        subst hie
        go_wp2
        go_meet
        case rel => exact ⟨rfl, rfl⟩
  case rest =>
  obtain ⟨rfl, rfl⟩ := hcut
  obtain ⟨n, hn⟩ : ∃ n, n = (sel f s K).length := ⟨_, rfl⟩
  have HN : Hid (n = (sel f s K).length) := hn
  have hn8 : n ≤ 8 := by rw [hn]; have := sel_len f s K; omega
  have HP : Hid (pcs (bits .and .u8 f (mk K)) 8 = (n : Int)) := by
    rw [hn, sel_cb]; exact pop_is f hf K hK8
  have hxb : 0 ≤ bits .and .u8 f (mk K) ∧ bits .and .u8 f (mk K) ≤ 255 := bounds_u8 (wf_bits _ _ _ _)
  clear hn
  go_wp2_with fail
  refine (popCount_any _ _ HP.out hxb _).mono ?_
  rintro e w' ⟨rfl, rfl⟩
  clear HP hxb
  go_wp2_with fail
  refine (zzFlags_any f s w hf hs).mono ?_
  rintro e w1 ⟨r, rfl, hr, hbel⟩
  have HBE : Hid (Below w.heap.size w w1) := hbel
  clear hbel
  by_cases hn0 : n = 0
  · have ht : (r.toList == [45]) = true := by
      rw [ByteArray.toList_eq, hr.out]
      unfold outL
      rw [HSEL.out, if_pos (List.length_eq_zero_iff.1 (by rw [← HN.out]; exact hn0))]
      rfl
    subst hn0
    clear hr HN HSEL
    go_wp2
    go_ret
    exact ⟨rfl, HBE.out⟩
  · have HT : Hid (r.data.toList = sel f s K) := by
      show _ = _
      rw [hr.out]
      unfold outL
      rw [HSEL.out, if_neg (fun h => hn0 (by rw [HN.out, h]; rfl))]
    have hrs : r.size = n := by
      have := congrArg List.length HT.out
      rw [Array.length_toList, ← HN.out] at this
      exact this
    have HRS : Hid (r.size = n) := hrs
    have hrn1 : (r.size : Int) ≤ (n : Int) := by omega
    have hrn2 : (n : Int) ≤ (r.size : Int) := by omega
    clear hr HSEL hrs
    go_upto_if 51 with fail
    go_cut [] (fun wx => w1 = wx)
    case first =>
      cases ht : (r.toList == [45])
      · go_wp2
        go_meet
        case rel => rfl
      · have h45 : sel f s K = [45] := by
          rw [ByteArray.toList_eq, HT.out] at ht
          simpa using ht
        have hn1 : n = 1 := by rw [HN.out, h45]; rfl
        have hna : (n : Int) ≤ 1 := by omega
        have hnb : 1 ≤ (n : Int) := by omega
        have HOK : Hid (okF f s K = true) := okF_of f s K (by rw [h45]; simp)
        clear h45 hn1
        go_wp2_with fail
        go_loopg [10, 11] K (fun g s10 s11 wr => ∃ i : Nat, g = K - i ∧ i ≤ K ∧ s10 = .bool (okF f s i) ∧ s11 = .int .i64 (i : Int) ∧ w1 = wr)
        case atStart => exact ⟨0, rfl, by omega, rfl, rfl, rfl⟩
        case round =>
          obtain ⟨i, rfl, hi, rfl, rfl, rfl⟩ := hrel
          by_cases hlt : i < K
          · have hls : i < s.size := by omega
            have HA : Hid (s[i] = s.data.toList.getD i 0) := at_getD s i hls
            cases hb : bitB f i
            · have HS : Hid (okF f s (i + 1) = okF f s i) := okF_bit hb
              have hb' : (bits .and .u8 f (128 / 2 ^ i) != 0) = false := by rw [← bit_lt f i (by omega)]; exact hb
              clear hb
              go_wp2
              go_roundg (K - (i + 1))
              case measure => omega
              case rel => exact ⟨i + 1, rfl, by omega, by rw [HS.out], by go_num, rfl⟩
            · have hb' : (bits .and .u8 f (128 / 2 ^ i) != 0) = true := by rw [← bit_lt f i (by omega)]; exact hb
              cases hd : (((s[i]).toNat : Int) == 45)
              · have HS : Hid (okF f s (i + 1) = okF f s i) := okF_let hls hd
                clear hb
                go_wp2
                go_roundg (K - (i + 1))
                case measure => omega
                case rel => exact ⟨i + 1, rfl, by omega, by rw [HS.out], by go_num, rfl⟩
              · have HS : Hid (okF f s (i + 1) = true) := okF_hit hls hb hd
                clear hb
                go_wp2
                go_roundg (K - (i + 1))
                case measure => omega
                case rel => exact ⟨i + 1, rfl, by omega, by rw [HS.out], by go_num, rfl⟩
          · have hie : i = K := by omega
            subst hie
            rw [HOK.out]
            go_wp2
            go_meet
            case rel => rfl
    case rest =>
    subst hcut
    go_wp2_with fail
    go_loopg [12, 13] K (fun g s12 s13 wr => ∃ i j d : Nat, g = K - i ∧ i ≤ K ∧ j ≤ n ∧ (sel f s i).length ≤ j ∧ s12 = .int .i64 (j : Int) ∧ s13 = .int .i64 (i : Int) ∧ wr = w1.drewN d)
    case atStart => exact ⟨0, 0, 0, rfl, by omega, by omega, by simp [sel], rfl, rfl, rfl⟩
    case round =>
      obtain ⟨i, j, d, rfl, hi, hj, hq, rfl, rfl, rfl⟩ := hrel
      by_cases hlt : i < K
      · by_cases hjn : j < n
        · have hi1 : (i : Int) < (s.size : Int) := by omega
          have hj1 : (j : Int) < (r.size : Int) := by omega
          have hls : i < s.size := by omega
          have hjs : j < r.size := by omega
          have HQ : Hid ((((s[i]).toNat : Int) == ((r[j]).toNat : Int)) = false → (sel f s (i + 1)).length ≤ j) := greedy_no hls hjs hlt HT.out hq
          have HQ2 : Hid ((sel f s (i + 1)).length ≤ j + 1) := greedy_yes hq
          clear hq
          go_wp2
          go_quiet (fail)
          go_wp2
          · go_roundg (K - (i + 1))
            case measure => omega
            case rel => exact ⟨i + 1, j + 1, d + nq, rfl, by omega, by omega, HQ2.out, by go_num, by go_num, rfl⟩
          · have hq2 : (sel f s (i + 1)).length ≤ j := HQ.out ‹_›
            go_roundg (K - (i + 1))
            case measure => omega
            case rel => exact ⟨i + 1, j, d + nq, rfl, by omega, by omega, hq2, rfl, by go_num, rfl⟩
        · have hje : Hid (j = n) := by show j = n; omega
          clear hq
          go_wp2
          go_ret
          exact ⟨ret_bool (by rw [hje.out, HRS.out]; simp), below_drewN HBE.out d⟩
      · have hje : Hid (j = n) := by
          show j = n
          have hik : i = K := by omega
          rw [hik, ← HN.out] at hq
          omega
        clear hq
        go_wp2
        go_ret
        exact ⟨ret_bool (by rw [hje.out, HRS.out]; simp), below_drewN HBE.out d⟩
end Go.Proofs.Qxb6603208a
