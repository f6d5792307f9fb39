/- readNumber by its contract. -/
import Derived.Test.Qxb6602665aRnTail
namespace Go.Proofs.Qxb6602665a
open Go.RowKit
set_option linter.unusedVariables false

set_option maxHeartbeats 20000000 in
set_option maxRecDepth 100000 in
theorem read_any (b len : Nat) (c : Nat → Int) (w : World) (hs : len ≤ 1048576) (hbw : b < w.heap.size)
    (hcell : ∀ j, j < len → w.cell? ⟨b, j, none⟩ = some (.int .u8 (c j))) (hb : ∀ j, 0 ≤ c j ∧ c j ≤ 255) :
    Calls Try.prog 16 #[.slice (some ⟨b, 0, none⟩) len len] w fun e w' => ∃ S : Sh, Ok c len S ∧ e = .returned (.tuple #[.agg #[.bool S.neg, .int .i64 S.whole, .int .i64 S.frac, .int .i64 S.zeros, .int .i64 (S.exp c)], .int .i64 S.N]) ∧ Below w.heap.size w w' := by
  have HO : Hid (∀ (neg : Bool) (wh fr ze ex n : Int) (j : Nat), j < len → (((w.alloc (.cells #[.slice (some ⟨b, 0, none⟩) len len] 22)).alloc (.cells #[.bool neg, .int .i64 wh, .int .i64 fr, .int .i64 ze, .int .i64 ex] 34)).alloc (.cells #[.int .i64 n] 3)).cell? ⟨b, j, none⟩ = some (.int .u8 (c j))) :=
    fun neg wh fr ze ex n j hj => (St_old hbw).trans (hcell j hj)
  have HC : Hid (∀ j, j < len → w.cell? ⟨b, j, none⟩ = some (.int .u8 (c j))) := hcell
  have HB : Hid (∀ j, 0 ≤ c j ∧ c j ≤ 255) := hb
  clear hcell hb
  go_enter Try.func16, Try.ntmps16
  -- the sign
  go_upto_region 1 with fail
  obtain ⟨neg, p0, hneg⟩ := sign_of c len
  have hp0 : p0 ≤ len := by
    cases neg
    · have := hneg.out.2 rfl; omega
    · have := hneg.out.1 rfl; omega
  go_cut [] (fun wx => wx = ((w.alloc (.cells #[.slice (some ⟨b, 0, none⟩) len len] 22)).alloc (.cells #[.bool neg, .int .i64 0, .int .i64 0, .int .i64 0, .int .i64 0] 34)).alloc (.cells #[.int .i64 0] 3))
  case first =>
    by_cases hl : 0 < len
    · have hg := HO.out false 0 0 0 0 0 0 hl
      cases neg
      · have h45 : (c 0 == 45) = false := by have := hneg.out.2 rfl; simp; omega
        go_wp2
        go_meet
        case rel => rfl
      · have h45 : (c 0 == 45) = true := by have := hneg.out.1 rfl; simp; omega
        go_wp2
        go_meet
        case rel => rfl
    · cases neg
      · have hl0 : ¬ (0 : Int) < (len : Int) := by omega
        go_wp2
        go_meet
        case rel => rfl
      · have := hneg.out.1 rfl; omega
  case rest =>
  subst hcut
  go_upto_if 20 with fail
  go_cut [] (fun wx => wx = ((w.alloc (.cells #[.slice (some ⟨b, 0, none⟩) len len] 22)).alloc (.cells #[.bool neg, .int .i64 0, .int .i64 0, .int .i64 0, .int .i64 0] 34)).alloc (.cells #[.int .i64 (p0 : Int)] 3))
  case first =>
    cases neg
    · have h0 := (hneg.out.2 rfl).1
      subst h0
      go_wp2
      go_meet
      case rel => rfl
    · have h0 := (hneg.out.1 rfl).1
      subst h0
      go_wp2
      go_meet
      case rel => rfl
  case rest =>
  subst hcut
  -- the whole digits
  go_wp2_with fail
  refine (digits_any b len len c w neg 0 0 0 0 p0 hs hp0 hbw HC.out HB.out).mono ?_
  rintro e w' ⟨p1, rfl, hrun1, rfl⟩
  have h01 : p0 ≤ p1 := hrun1.1
  have hp1 : p1 ≤ len := hrun1.2.1
  unfold St
  -- the point
  go_upto_region 7 with fail
  obtain ⟨dot, hdot⟩ := is_of (p1 < len ∧ c p1 = 46)
  go_cut [38] (fun s38 wx => s38 = .bool dot ∧ wx = ((w.alloc (.cells #[.slice (some ⟨b, 0, none⟩) len len] 22)).alloc (.cells #[.bool neg, .int .i64 ((p1 : Int) - (p0 : Int)), .int .i64 0, .int .i64 0, .int .i64 0] 34)).alloc (.cells #[.int .i64 (p1 : Int)] 3))
  case first =>
    by_cases hl : p1 < len
    · have hg := HO.out neg ((p1 : Int) - (p0 : Int)) 0 0 0 p1 p1 hl
      cases dot
      · have h45 : (c p1 == 46) = false := by have := hdot.out.2 rfl; simp; omega
        go_wp2
        go_meet
        case rel => exact ⟨rfl, rfl⟩
      · have h45 : (c p1 == 46) = true := by have := hdot.out.1 rfl; simp; omega
        go_wp2
        go_meet
        case rel => exact ⟨rfl, rfl⟩
    · cases dot
      · have hl0 : ¬ (p1 : Int) < (len : Int) := by omega
        go_wp2
        go_meet
        case rel => exact ⟨rfl, rfl⟩
      · have := hdot.out.1 rfl; omega
  case rest =>
  obtain ⟨rfl, rfl⟩ := hcut
  go_upto_if 38 with fail
  go_cut [] (fun wx => ∃ (p2 : Nat) (fr : Int), Hid ((dot = true → p1 < len ∧ c p1 = 46 ∧ Run c len (p1 + 1) p2) ∧ (dot = false → p2 = p1 ∧ (p1 = len ∨ c p1 ≠ 46))) ∧ Hid (fr = if dot then (p2 : Int) - (p1 : Int) - 1 else 0) ∧ p1 ≤ p2 ∧ p2 ≤ len ∧
      wx = ((w.alloc (.cells #[.slice (some ⟨b, 0, none⟩) len len] 22)).alloc (.cells #[.bool neg, .int .i64 ((p1 : Int) - (p0 : Int)), .int .i64 fr, .int .i64 0, .int .i64 0] 34)).alloc (.cells #[.int .i64 (p2 : Int)] 3))
  case first =>
    cases dot
    · have hnd : Hid (p1 = len ∨ c p1 ≠ 46) := by have := hdot.out.2 rfl; show _ ∨ _; omega
      go_wp2
      go_meet
      case rel =>
        exact ⟨p1, _, ⟨fun h => (by cases h), fun _ => ⟨rfl, hnd.out⟩⟩, rfl, Nat.le_refl _, hp1, rfl⟩
    · have hl := (hdot.out.1 rfl).1
      have hyd : Hid (c p1 = 46) := (hdot.out.1 rfl).2
      go_wp2_with fail
      refine (digits_any b len len c w neg ((p1 : Int) - (p0 : Int)) 0 0 0 (p1 + 1) hs (by omega) hbw HC.out HB.out).mono ?_
      rintro e w' ⟨p2, rfl, hrun2, rfl⟩
      have h12 : p1 + 1 ≤ p2 := hrun2.1
      have hp2 : p2 ≤ len := hrun2.2.1
      unfold St
      go_wp2
      go_meet
      case rel =>
        exact ⟨p2, _, ⟨fun _ => ⟨hl, hyd.out, hrun2⟩, fun h => (by cases h)⟩, fr_of p1 p2, by omega, hp2, rfl⟩
  case rest =>
  obtain ⟨p2, fr, hdots, hfr, h12, hp2, rfl⟩ := hcut
  -- the leading zeros
  go_upto_block 0 with fail
  obtain ⟨ao, hao⟩ : ∃ ao : Option Addr, (if len = p0 then some (⟨b, 0, none⟩ : Addr) else some ⟨b, p0, none⟩) = ao := ⟨_, rfl⟩
  rw [hao]
  have hao' : Hid (p0 < len → ao = some ⟨b, p0, none⟩) := fun h => by rw [← hao, if_neg (by omega)]
  clear hao
  go_cut [] (fun wx => ∃ (k : Nat) (ze : Int), p0 + k ≤ p2 ∧ Hid (∀ j, p0 ≤ j → j < p0 + k → c j = 48 ∨ c j = 46) ∧ Hid (p0 + k = p2 ∨ (c (p0 + k) ≠ 48 ∧ c (p0 + k) ≠ 46)) ∧ Hid (ze = cz c p0 k) ∧ wx = ((w.alloc (.cells #[.slice (some ⟨b, 0, none⟩) len len] 22)).alloc (.cells #[.bool neg, .int .i64 ((p1 : Int) - (p0 : Int)), .int .i64 fr, .int .i64 ze, .int .i64 0] 34)).alloc (.cells #[.int .i64 (p2 : Int)] 3))
  case first =>
    by_cases hlp : p0 < len
    rotate_left
    · go_wp2_with fail
      refine wp_loop_rounds 1 ?_
      rw [rounds_succ]
      go_wp2
      go_meet
      case rel => exact ⟨0, _, by omega, fun j h1 h2 => absurd h1 (by omega), .inl (by omega), rfl, rfl⟩
    · have hao2 := hao'.out hlp
      subst hao2
      go_wp2_with fail
      go_loopg [49] (p2 - p0) (fun g i wr => ∃ (k : Nat) (ze : Int), g = p2 - p0 - k ∧ p0 + k ≤ p2 ∧ i = .int .i64 k ∧ Hid (∀ j, p0 ≤ j → j < p0 + k → c j = 48 ∨ c j = 46) ∧ Hid (ze = cz c p0 k) ∧ 0 ≤ ze ∧ ze ≤ k ∧ wr = ((w.alloc (.cells #[.slice (some ⟨b, 0, none⟩) len len] 22)).alloc (.cells #[.bool neg, .int .i64 ((p1 : Int) - (p0 : Int)), .int .i64 fr, .int .i64 ze, .int .i64 0] 34)).alloc (.cells #[.int .i64 (p2 : Int)] 3))
      case atStart => exact ⟨0, 0, rfl, by omega, rfl, fun j h1 h2 => absurd h1 (by omega), rfl, by omega, by omega, rfl⟩
      case round =>
        obtain ⟨k, ze, rfl, hk, rfl, hall, hze, z0, z1, rfl⟩ := hrel
        by_cases hlt : p0 + k < p2
        · have hg := HO.out neg ((p1 : Int) - (p0 : Int)) fr ze 0 p2 (p0 + k) (by omega)
          have HS : Hid (cz c p0 (k + 1) = if c (p0 + k) = 48 then cz c p0 k + 1 else cz c p0 k) := cz_succ c p0 k
          by_cases e48 : c (p0 + k) = 48
          · have b1 : (c (p0 + k) == 48) = true := by simp [e48]
            have b2 : (c (p0 + k) != 48) = false := by simp [e48]
            have E : Hid (c (p0 + k) = 48) := e48
            clear e48
            go_wp2
            go_roundg (p2 - p0 - (k + 1))
            case measure => omega
            case rel => exact ⟨k + 1, ze + 1, rfl, by omega, by go_num, all_snoc hall (.inl E.out), (by rw [Hid, HS.out, if_pos E.out, hze.out]), by omega, by omega, rfl⟩
          · have b1 : (c (p0 + k) == 48) = false := by simp [e48]
            have b2 : (c (p0 + k) != 48) = true := by simp [e48]
            have E : Hid (¬ c (p0 + k) = 48) := e48
            clear e48
            by_cases e46 : c (p0 + k) = 46
            · have b3 : (c (p0 + k) != 46) = false := by simp [e46]
              have E6 : Hid (c (p0 + k) = 46) := e46
              clear e46
              go_wp2
              go_roundg (p2 - p0 - (k + 1))
              case measure => omega
              case rel => exact ⟨k + 1, ze, rfl, by omega, by go_num, all_snoc hall (.inr E6.out), (by rw [Hid, HS.out, if_neg E.out, hze.out]), by omega, by omega, rfl⟩
            · have b3 : (c (p0 + k) != 46) = true := by simp [e46]
              have E6 : Hid (¬ c (p0 + k) = 46) := e46
              clear e46
              go_wp2
              go_meet
              case rel => exact ⟨k, ze, by omega, hall, .inr ⟨E.out, E6.out⟩, hze, rfl⟩
        · go_wp2
          go_meet
          case rel => exact ⟨k, ze, by omega, hall, .inl (by omega), hze, rfl⟩
  case rest =>
  obtain ⟨kf, ze, hkf, hall, hfend, hze, rfl⟩ := hcut
  clear hdot
  refine (by assumption : ∀ (a : Act) (w : World), Code.wp Try.prog _ _ a w → _) _ _ ?_
  exact read_tail b len c w hs hbw HO HB neg dot p0 p1 p2 kf fr ze hneg hp0 hrun1 h01 hp1 hdots hfr h12 hp2 hkf hall hfend hze _ _ _ _ _ _ _ _ _ _ _ _ _ _ _ _ _ _ _ _ _ _ _ _ _ _ _ _ _ _ _ _ _ _ _ _ _ _ _ _ _ _ _ _ _ _ _ _ _ _ _ _ _ _ _ _ _ _ _ _ _ _ _ _ _ _ _ _ _ _ _ _ _ _ _ _ _ _ _ _ _ _ _ _ _ _ _ _ _ _ _ _ _ _ _ _ _ _ _ _ _ _ _ _ _ _ _ _ _ _ _ _ _ _ _ _ _ _ _ _ _ _ _ _ _ _ _ _ _ _ _ _ _ _ _ _ _ _ _ _ _ _ _
end Go.Proofs.Qxb6602665a
