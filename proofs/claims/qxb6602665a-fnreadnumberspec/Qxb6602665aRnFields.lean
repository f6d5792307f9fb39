/- rnFields by its contract. -/
import Derived.Test.Qxb6602665aRnFTail
namespace Go.Proofs.Qxb6602665a
open Go.RowKit
set_option linter.unusedVariables false

set_option maxHeartbeats 20000000 in
set_option maxRecDepth 100000 in
theorem fields_core (b cap : Nat) (c : Nat → Int) (w : World) (neg dot ex sgn en : Bool) (p0 p1 p2 p4 N f : Nat) (hP : Parts c neg dot ex sgn en p0 p1 p2 p4 N f)
    (fr ze xp : Int) (hfr : Hid (fr = if dot then (p2 : Int) - (p1 : Int) - 1 else 0)) (HZE : Hid (ze = if dot = true ∧ p1 < f then (f : Int) - p0 - 1 else (f : Int) - p0)) (HX : Hid (xp = if ex then (if en then - sat c p4 (N - p4) else sat c p4 (N - p4)) else 0)) (hN : N ≤ 1048576) (hcap : N ≤ cap) (hcm : cap ≤ 1048576)
    (hcell : ∀ j, j < N → w.cell? ⟨b, j, none⟩ = some (.int .u8 (c j))) (hb : ∀ j, 0 ≤ c j ∧ c j ≤ 255) :
    Calls Try.prog 11 #[.slice (some ⟨b, 0, none⟩) N cap] w fun e w' => e = .returned (.tuple #[.bool neg, .int .i64 ((p1 : Int) - p0), .int .i64 fr, .int .i64 ze, .int .i64 xp]) ∧ w = w' := by
  have HC : Hid (∀ j, j < N → w.cell? ⟨b, j, none⟩ = some (.int .u8 (c j))) := hcell
  have HB : Hid (∀ j, 0 ≤ c j ∧ c j ≤ 255) := hb
  have HP : Hid (Parts c neg dot ex sgn en p0 p1 p2 p4 N f) := hP
  have h01 := hP.o1
  have h12 := hP.o2
  have h2N := hP.o3
  clear hcell hb hP
  go_enter Try.func11, Try.ntmps11
  -- the sign
  go_upto_region 2 with fail
  go_cut [26] (fun s26 wx => s26 = .bool neg ∧ w = wx)
  case first =>
    cases neg
    · have h := (HP.out.n2 rfl).2
      by_cases hl : 0 < N
      · have hg := HC.out 0 hl
        have h45 : (c 0 == 45) = false := by
          rcases h with h | h
          · omega
          · exact h
        clear h
        go_wp2
        go_meet
        case rel => exact ⟨rfl, rfl⟩
      · clear h
        have hl0 : ¬ (0 : Int) < (N : Int) := by omega
        go_wp2
        go_meet
        case rel => exact ⟨rfl, rfl⟩
    · have h := HP.out.n1 rfl
      have hl : 0 < N := by omega
      have hg := HC.out 0 hl
      have h45 := h.2
      clear h
      go_wp2
      go_meet
      case rel => exact ⟨rfl, rfl⟩
  case rest =>
  obtain ⟨rfl, rfl⟩ := hcut
  go_upto_if 26 with fail
  go_cut [2, 7] (fun s2 s7 wx => s2 = .bool neg ∧ s7 = .int .i64 (p0 : Int) ∧ w = wx)
  case first =>
    cases neg
    · have h := (HP.out.n2 rfl).1
      subst h
      go_wp2
      go_meet
      case rel => exact ⟨rfl, rfl, rfl⟩
    · have h := (HP.out.n1 rfl).1
      subst h
      go_wp2
      go_meet
      case rel => exact ⟨rfl, rfl, rfl⟩
  case rest =>
  obtain ⟨rfl, rfl, rfl⟩ := hcut
  -- the end
  go_upto_block 0 with fail
  go_cut [8] (fun s8 wx => s8 = .int .i64 (p2 : Int) ∧ w = wx)
  case first =>
    go_wp2_with fail
    go_loopg [8, 9] (N - p0) (fun g s8 s9 wr => ∃ k : Nat, g = N - k ∧ p0 ≤ k ∧ k ≤ p2 ∧ s8 = .int .i64 (N : Int) ∧ s9 = .int .i64 k ∧ w = wr)
    case atStart => exact ⟨p0, rfl, by omega, by omega, rfl, rfl, rfl⟩
    case round =>
      obtain ⟨k, rfl, hk0, hk2, rfl, rfl, rfl⟩ := hrel
      by_cases hlt : k < p2
      · have hg := HC.out k (by omega)
        have h1 := (HP.out.notE k hk0 hlt).1
        have h2 := (HP.out.notE k hk0 hlt).2
        go_wp2
        go_roundg (N - (k + 1))
        case measure => omega
        case rel => exact ⟨k + 1, rfl, by omega, by omega, rfl, by go_num, rfl⟩
      · have hke : k = p2 := by omega
        subst hke
        cases ex
        · have hNe := HP.out.exF rfl
          subst hNe
          go_wp2
          go_meet
          case rel => exact ⟨rfl, rfl⟩
        · have hx := HP.out.exT rfl
          have hlN := hx.1
          have hg := HC.out k hlN
          have hE : Hid ((c k == 101) = true ∨ ((c k == 101) = false ∧ (c k == 69) = true)) := hx.2.1
          clear hx
          rcases hE.out with h1 | ⟨h1, h2⟩
          all_goals
            clear hE
            go_wp2
            go_meet
            case rel => exact ⟨rfl, rfl⟩
  case rest =>
  obtain ⟨rfl, rfl⟩ := hcut
  -- the point
  go_upto_block 2 with fail
  obtain ⟨dv, hdv⟩ : ∃ dv : Int, Hid (dv = if dot then (p1 : Int) else -1) := ⟨_, rfl⟩
  go_cut [10] (fun s10 wx => s10 = .int .i64 dv ∧ w = wx)
  case first =>
    go_wp2_with fail
    go_loopg [10, 11] (p2 - p0) (fun g s10 s11 wr => ∃ k : Nat, g = p2 - k ∧ p0 ≤ k ∧ k ≤ p1 ∧ s10 = .int .i64 (-1) ∧ s11 = .int .i64 k ∧ w = wr)
    case atStart => exact ⟨p0, rfl, by omega, by omega, rfl, rfl, rfl⟩
    case round =>
      obtain ⟨k, rfl, hk0, hk1, rfl, rfl, rfl⟩ := hrel
      by_cases hlt : k < p1
      · have hg := HC.out k (by omega)
        have h1 := HP.out.notP k hk0 hlt
        go_wp2
        go_roundg (p2 - (k + 1))
        case measure => omega
        case rel => exact ⟨k + 1, rfl, by omega, by omega, rfl, by go_num, rfl⟩
      · have hke : k = p1 := by omega
        subst hke
        cases dot
        · have hNe := HP.out.dotF rfl
          have hd2 : dv = -1 := hdv.out
          subst hd2
          subst hNe
          go_wp2
          go_meet
          case rel => exact ⟨rfl, rfl⟩
        · have hx := HP.out.dotT rfl
          have hlp := hx.1
          have h46 := hx.2
          have hd2 : dv = (k : Int) := hdv.out
          subst hd2
          have hg := HC.out k (by omega)
          clear hx
          go_wp2
          go_meet
          case rel => exact ⟨rfl, rfl⟩
  case rest =>
  obtain ⟨rfl, rfl⟩ := hcut
  go_upto_if 62 with fail
  go_cut [3, 4] (fun s3 s4 wx => s3 = .int .i64 ((p1 : Int) - (p0 : Int)) ∧ s4 = .int .i64 fr ∧ w = wx)
  case first =>
    cases dot
    · have hNe := HP.out.dotF rfl
      have hd2 : dv = -1 := hdv.out
      have hf2 : fr = 0 := hfr.out
      subst hd2 hf2
      subst hNe
      go_wp2
      go_meet
      case rel => exact ⟨rfl, rfl, rfl⟩
    · have hd2 : dv = (p1 : Int) := hdv.out
      have hf2 : fr = (p2 : Int) - (p1 : Int) - 1 := hfr.out
      have hlp := (HP.out.dotT rfl).1
      subst hd2 hf2
      go_wp2
      go_meet
      case rel => exact ⟨rfl, rfl, rfl⟩
  case rest =>
  obtain ⟨rfl, rfl, rfl⟩ := hcut
  -- the first digit that is no zero
  have hf1 := HP.out.f1
  have hf2 := HP.out.f2
  go_upto_block 4 with fail
  go_cut [12] (fun s12 wx => s12 = .int .i64 (f : Int) ∧ w = wx)
  case first =>
    go_wp2_with fail
    go_loopg [12, 13] (p2 - p0) (fun g s12 s13 wr => ∃ k : Nat, g = p2 - k ∧ p0 ≤ k ∧ k ≤ f ∧ s12 = .int .i64 (p2 : Int) ∧ s13 = .int .i64 k ∧ w = wr)
    case atStart => exact ⟨p0, rfl, by omega, by omega, rfl, rfl, rfl⟩
    case round =>
      obtain ⟨k, rfl, hk0, hkf, rfl, rfl, rfl⟩ := hrel
      by_cases hlt : k < f
      · have hg := HC.out k (by omega)
        have h1 : ¬ (49 : Int) ≤ c k := by have := HP.out.fAll k hk0 hlt; omega
        go_wp2
        go_roundg (p2 - (k + 1))
        case measure => omega
        case rel => exact ⟨k + 1, rfl, by omega, by omega, rfl, by go_num, rfl⟩
      · have hke : k = f := by omega
        subst hke
        by_cases hfe : k < p2
        · have hx : 49 ≤ c k ∧ c k ≤ 57 := by
            rcases HP.out.fEnd with h | h
            · omega
            · exact h
          have hx1 := hx.1
          have hx2 := hx.2
          have hg := HC.out k (by omega)
          go_wp2
          go_meet
          case rel => exact ⟨rfl, rfl⟩
        · have hke : k = p2 := by omega
          subst hke
          go_wp2
          go_meet
          case rel => exact ⟨rfl, rfl⟩
  case rest =>
  obtain ⟨rfl, rfl⟩ := hcut
  go_upto_region 28 with fail
  obtain ⟨zb, hzb⟩ : ∃ zb : Bool, Hid (zb = decide (dot = true ∧ p1 < f)) := ⟨_, rfl⟩
  go_cut [102] (fun s102 wx => s102 = .bool zb ∧ w = wx)
  case first =>
    cases dot
    · have hd2 : dv = -1 := hdv.out
      have hz : zb = false := by rw [hzb.out]; simp
      subst hd2 hz
      go_wp2
      go_meet
      case rel => exact ⟨rfl, rfl⟩
    · have hd2 : dv = (p1 : Int) := hdv.out
      subst hd2
      by_cases hpf : p1 < f
      · have hz : zb = true := by rw [hzb.out]; simp [hpf]
        subst hz
        go_wp2
        go_meet
        case rel => exact ⟨by simp, rfl⟩
      · have hz : zb = false := by rw [hzb.out]; simp; omega
        subst hz
        go_wp2
        go_meet
        case rel => exact ⟨by simp, rfl⟩
  case rest =>
  obtain ⟨rfl, rfl⟩ := hcut
  go_upto_if 102 with fail
  have hze : Hid (ze = if zb then (f : Int) - p0 - 1 else (f : Int) - p0) := by
    show ze = _
    rw [HZE.out, hzb.out]
    by_cases h : dot = true ∧ p1 < f
    · rw [if_pos h, if_pos (decide_eq_true h)]
    · rw [if_neg h, if_neg (by simpa using h)]
  go_cut [5] (fun s5 wx => s5 = .int .i64 ze ∧ w = wx)
  case first =>
    cases zb
    · have hz : ze = (f : Int) - p0 := hze.out
      subst hz
      go_wp2
      go_meet
      case rel => exact ⟨rfl, rfl⟩
    · have hz : ze = (f : Int) - p0 - 1 := hze.out
      subst hz
      go_wp2
      go_meet
      case rel => exact ⟨rfl, rfl⟩
  case rest =>
  obtain ⟨rfl, rfl⟩ := hcut
  clear hfr hze hzb hdv HZE
  refine (by assumption : ∀ (a : Act) (w : World), Code.wp Try.prog _ _ a w → _) _ _ ?_
  exact fields_tail b cap c w neg dot ex sgn en p0 p1 p2 p4 N f HP fr ze xp HX hN hcap hcm HC HB h01 h12 h2N _ _ _ _ _ _ _ _ _ _ _ _ _ _ _ _ _ _ _ _ _ _ _ _ _ _ _ _ _ _ _ _ _ _ _ _ _ _ _ _ _ _ _ _ _ _ _ _ _ _ _ _ _ _ _ _ _ _ _ _ _ _ _ _ _ _ _ _ _ _ _ _ _ _ _ _ _ _ _ _ _ _ _ _ _ _ _ _ _ _ _ _ _ _ _ _ _ _ _ _ _ _ _ _ _ _ _ _ _ _ _ _ _ _ _ _ _ _ _ _ _ _ _ _ _ _ _ _ _ _ _ _ _ _ _ _ _ _ _ _ _ _ _ _ _ _ _ _ _ _ _ _ _ _ _ _ _ _ _ _ _ _ _ _ _ _ _ _ _
end Go.Proofs.Qxb6602665a
