/- zzFirstLineIsTag by its contract. -/
import Derived.Test.Qxb6603128aB
import Derived.Deep.DeepCutAuto
import Derived.Deep.CutBlock
import Derived.Deep.QuietTactic
import Derived.BigQuiet
namespace Go.Proofs.Qxb6603128a
open Go.RowKit
set_option linter.unusedVariables false

theorem tag_at : ∀ (k : Nat) (h : k < 7), ((({ data := #[35, 69, 88, 84, 77, 51, 85] } : ByteArray)[k]'h).toNat : Int) = tg k := by decide

/-- Does the first k bytes' row agree with the tag? -/
def okB (c : Nat → Int) : Bool := preB c tg 0 7 7
theorem okB_iff (c : Nat → Int) : okB c = true ↔ ∀ j, j < 7 → c j = tg j := by
  unfold okB
  rw [preB_iff]
  simp only [Nat.zero_add]
  exact ⟨fun h => h.2, fun h => ⟨Nat.le_refl _, h⟩⟩

/-- E: the first line feed, or the end. -/
def Lf (c : Nat → Int) (len E : Nat) : Prop := E ≤ len ∧ (∀ j, j < E → c j ≠ 10) ∧ (E = len ∨ c E = 10)

/-- The plain law: the model's answer is isPlaylist's. -/
theorem plain_law (c : Nat → Int) (len E : Nat) (h : Lf c len E) (F : Nat) (hF1 : E < len ∧ 0 < E ∧ c (E - 1) = 13 → F = E - 1) (hF2 : ¬ (E < len ∧ 0 < E ∧ c (E - 1) = 13) → F = E) :
    (F ≠ 7 → plB c len = false) ∧ (F = 7 → plB c len = okB c) := by
  obtain ⟨e1, e2, e3⟩ := h
  have t0 : tg 0 = 35 := rfl
  have t1 : tg 1 = 69 := rfl
  have t2 : tg 2 = 88 := rfl
  have t3 : tg 3 = 84 := rfl
  have t4 : tg 4 = 77 := rfl
  have t5 : tg 5 = 51 := rfl
  have t6 : tg 6 = 85 := rfl
  have l0 : cl 0 = 13 := rfl
  have l1 : cl 1 = 10 := rfl
  have key : plB c len = true ↔ (7 ≤ len ∧ (∀ j, j < 7 → c j = tg j)) ∧ (len = 7 ∨ c 7 = 10 ∨ (2 ≤ len - 7 ∧ c 7 = 13 ∧ c 8 = 10)) := by
    unfold plB
    rw [Bool.and_eq_true, Bool.or_eq_true, Bool.or_eq_true, preB_iff, preB_iff, beq_iff_eq, beq_iff_eq]
    simp only [Nat.zero_add]
    constructor
    · rintro ⟨h1, h2⟩
      refine ⟨h1, ?_⟩
      rcases h2 with (h2 | h2) | h2
      · exact .inl h2
      · exact .inr (.inl h2)
      · have a0 := h2.2 0 (by omega)
        have a1 := h2.2 1 (by omega)
        exact .inr (.inr ⟨h2.1, by simpa [l0] using a0, by simpa [l1] using a1⟩)
    · rintro ⟨h1, h2⟩
      refine ⟨h1, ?_⟩
      rcases h2 with h2 | h2 | h2
      · exact .inl (.inl h2)
      · exact .inl (.inr h2)
      · refine .inr ⟨h2.1, fun j hj => ?_⟩
        have hj' : j = 0 ∨ j = 1 := by omega
        rcases hj' with rfl | rfl
        · rw [l0]; exact h2.2.1
        · rw [l1]; exact h2.2.2
  have noLf : (∀ j, j < 7 → c j = tg j) → ∀ j, j < 7 → c j ≠ 10 ∧ c j ≠ 13 := by
    intro ht j hj
    have := ht j hj
    have hj' : j = 0 ∨ j = 1 ∨ j = 2 ∨ j = 3 ∨ j = 4 ∨ j = 5 ∨ j = 6 := by omega
    rcases hj' with rfl | rfl | rfl | rfl | rfl | rfl | rfl <;> omega
  have hE : ∀ k, k < len → c k = 10 → E ≤ k := fun k hk h10 => by
    by_cases e : E ≤ k
    · exact e
    · exact absurd h10 (e2 k (by omega))
  by_cases hc : E < len ∧ 0 < E ∧ c (E - 1) = 13
  · have hF := hF1 hc
    have hcE : c E = 10 := by omega
    constructor
    · intro hne
      cases hp : plB c len
      · rfl
      · exfalso
        obtain ⟨⟨h7, ht⟩, h2⟩ := key.1 hp
        have hn := noLf ht
        have hE7 : 7 ≤ E := by
          by_cases e : 7 ≤ E
          · exact e
          · exact absurd hcE (hn E (by omega)).1
        rcases h2 with h2 | h2 | h2
        · omega
        · have := hE 7 (by omega) h2
          have he : E = 7 := by omega
          rw [he] at hc
          exact absurd hc.2.2 (hn 6 (by omega)).2
        · have h8 := hE 8 (by omega) h2.2.2
          have he : E ≠ 7 := fun e => by rw [e] at hcE; omega
          omega
    · intro h7
      have he : E = 8 := by omega
      subst he
      rw [Bool.eq_iff_iff, key, okB_iff]
      simp at hc
      constructor
      · intro h; exact h.1.2
      · intro h; exact ⟨⟨by omega, h⟩, .inr (.inr ⟨by omega, hc.2, hcE⟩)⟩
  · have hF := hF2 hc
    constructor
    · intro hne
      cases hp : plB c len
      · rfl
      · exfalso
        obtain ⟨⟨h7, ht⟩, h2⟩ := key.1 hp
        have hn := noLf ht
        have hE7 : 7 ≤ E := by
          by_cases e : 7 ≤ E
          · exact e
          · rcases e3 with e3 | e3
            · omega
            · exact absurd e3 (hn E (by omega)).1
        rcases h2 with h2 | h2 | h2
        · omega
        · by_cases hl : 7 < len
          · have := hE 7 hl h2; omega
          · omega
        · have h8 := hE 8 (by omega) h2.2.2
          have he : E = 8 := by omega
          rw [he] at hc
          exact hc ⟨by omega, by omega, h2.2.1⟩
    · intro h7
      have he : E = 7 := by omega
      rw [Bool.eq_iff_iff, key, okB_iff]
      constructor
      · intro h; exact h.1.2
      · intro h
        refine ⟨⟨by omega, h⟩, ?_⟩
        rw [he] at e3
        rcases e3 with e3 | e3
        · exact .inl e3.symm
        · exact .inr (.inl e3)

theorem miss {c : Nat → Int} {len k : Nat} (h : k < 7) (hR : plB c len = okB c) (e : (c k != ((({ data := #[35, 69, 88, 84, 77, 51, 85] } : ByteArray)[k]'h).toNat : Int)) = true) : false = plB c len := by
  rw [tag_at k h] at e
  rw [hR]
  cases ho : okB c
  · rfl
  · have := (okB_iff c).1 ho k h
    simp [this] at e
theorem hit {c : Nat → Int} {k : Nat} (h : k < 7) (ha : ∀ j, j < k → c j = tg j) (e : (c k != ((({ data := #[35, 69, 88, 84, 77, 51, 85] } : ByteArray)[k]'h).toNat : Int)) = false) : ∀ j, j < k + 1 → c j = tg j := by
  rw [tag_at k h] at e
  intro j hj
  by_cases ej : j = k
  · subst ej; simpa using e
  · exact ha j (by omega)

theorem first_nil (w : World) : Calls Try.prog 11 #[.slice none 0 0] w fun e w' => e = .returned (.bool false) ∧ w = w' := by
  go_enter Try.func11, Try.ntmps11
  go_wp2
  refine wp_loop_rounds 1 ?_
  rw [rounds_succ]
  go_wp2
  go_ret
  exact ⟨rfl, rfl⟩

set_option maxHeartbeats 2000000 in
set_option maxRecDepth 100000 in
theorem first_any (b len cap : Nat) (c : Nat → Int) (w : World) (hs : len ≤ 1048576) (hlc : len ≤ cap) (hc : ∀ j, 0 ≤ c j ∧ c j ≤ 255)
    (h1 : ∀ i, i < len → w.cell? ⟨b, i, none⟩ = some (.int .u8 (c i))) :
    Calls Try.prog 11 #[.slice (some ⟨b, 0, none⟩) len cap] w fun e w' => ∃ d : Nat, e = .returned (.bool (plB c len)) ∧ w.drewN d = w' := by
  have H1 : Hid (∀ i, i < len → w.cell? ⟨b, i, none⟩ = some (.int .u8 (c i))) := h1
  clear h1 hc
  go_enter Try.func11, Try.ntmps11
  -- the first line feed
  go_upto_block 0 with fail
  go_cut [3] (fun s3 wx => ∃ E : Nat, s3 = .int .i64 (E : Int) ∧ E ≤ len ∧ Hid (Lf c len E) ∧ w = wx)
  case first =>
    go_wp2_with fail
    go_loopg [3, 4] len (fun g s3 s4 wr => ∃ k : Nat, g = len - k ∧ k ≤ len ∧ s3 = .int .i64 (len : Int) ∧ s4 = .int .i64 (k : Int) ∧ Hid (∀ j, j < k → c j ≠ 10) ∧ w = wr)
    case atStart => exact ⟨0, rfl, by omega, rfl, rfl, fun j hj => absurd hj (by omega), rfl⟩
    case round =>
      obtain ⟨k, rfl, hk, rfl, rfl, hno, rfl⟩ := hrel
      by_cases hlt : k < len
      · have hg := H1.out k hlt
        by_cases e10 : c k = 10
        · have h1 : (c k == 10) = true := by simp [e10]
          have E : Hid (c k = 10) := e10
          clear e10
          go_wp2
          go_meet
          case rel => exact ⟨k, rfl, hk, ⟨hk, hno.out, .inr E.out⟩, rfl⟩
        · have h1 : (c k == 10) = false := by simp [e10]
          have E : Hid (c k ≠ 10) := e10
          clear e10
          go_wp2
          go_roundg (len - (k + 1))
          case measure => omega
          case rel => exact ⟨k + 1, rfl, by omega, rfl, by go_num, fun j hj => by
              by_cases e : j = k
              · subst e; exact E.out
              · exact hno.out j (by omega), rfl⟩
      · go_wp2
        go_meet
        case rel => exact ⟨len, rfl, Nat.le_refl _, ⟨Nat.le_refl _, fun j hj => hno.out j (by omega), .inl rfl⟩, rfl⟩
  case rest =>
  obtain ⟨E, rfl, hE, hLf, rfl⟩ := hcut
  -- the carriage return
  go_upto_region 7 with fail
  obtain ⟨cr, hcr⟩ : ∃ cr : Bool, Hid ((cr = true → E < len ∧ 0 < E ∧ c (E - 1) = 13) ∧ (cr = false → ¬ (E < len ∧ 0 < E ∧ c (E - 1) = 13))) := by
    by_cases h : E < len ∧ 0 < E ∧ c (E - 1) = 13
    · exact ⟨true, fun _ => h, fun h => by cases h⟩
    · exact ⟨false, fun h => (by cases h), fun _ => h⟩
  go_cut [36] (fun s36 wx => s36 = .bool cr ∧ w = wx)
  case first =>
    by_cases hl : E < len
    · by_cases h0 : 0 < E
      · have hg := H1.out (E - 1) (by omega)
        cases cr
        · have h13 : (c (E - 1) == 13) = false := by have := hcr.out.2 rfl; simp; omega
          go_wp2
          go_meet
          case rel => exact ⟨rfl, rfl⟩
        · have h13 : (c (E - 1) == 13) = true := by have := hcr.out.1 rfl; simp; omega
          go_wp2
          go_meet
          case rel => exact ⟨rfl, rfl⟩
      · cases cr
        · have hl0 : ¬ (0 : Int) < (E : Int) := by omega
          go_wp2
          go_meet
          case rel => exact ⟨rfl, rfl⟩
        · have := hcr.out.1 rfl; omega
    · cases cr
      · have hl0 : ¬ (E : Int) < (len : Int) := by omega
        go_wp2
        go_meet
        case rel => exact ⟨rfl, rfl⟩
      · have := hcr.out.1 rfl; omega
  case rest =>
  obtain ⟨rfl, rfl⟩ := hcut
  go_upto_if 36 with fail
  go_cut [3] (fun s3 wx => ∃ F : Nat, s3 = .int .i64 (F : Int) ∧ F ≤ len ∧ Hid ((F ≠ 7 → plB c len = false) ∧ (F = 7 → plB c len = okB c)) ∧ w = wx)
  case first =>
    cases cr
    · have HF : Hid ((E ≠ 7 → plB c len = false) ∧ (E = 7 → plB c len = okB c)) := plain_law c len E hLf.out E (fun h => absurd h (hcr.out.2 rfl)) (fun _ => rfl)
      clear hcr
      go_wp2
      go_meet
      case rel => exact ⟨E, rfl, hE, HF, rfl⟩
    · have hE0 : 0 < E := (hcr.out.1 rfl).2.1
      have HF : Hid ((E - 1 ≠ 7 → plB c len = false) ∧ (E - 1 = 7 → plB c len = okB c)) := plain_law c len E hLf.out (E - 1) (fun _ => rfl) (fun h => absurd (hcr.out.1 rfl) h)
      clear hcr
      go_wp2
      go_meet
      case rel => exact ⟨E - 1, by go_num, by omega, HF, rfl⟩
  case rest =>
  obtain ⟨F, rfl, hFl, hF, rfl⟩ := hcut
  clear hLf hcr
  by_cases h7 : F = 7
  · subst h7
    have HR : Hid (plB c len = okB c) := hF.out.2 rfl
    clear hF
    go_wp2_with fail
    go_loopg [6] 7 (fun g s6 wr => ∃ k d : Nat, g = 7 - k ∧ k ≤ 7 ∧ s6 = .int .i64 (k : Int) ∧ Hid (∀ j, j < k → c j = tg j) ∧ w.drewN d = wr)
    case atStart => exact ⟨0, 0, rfl, by omega, rfl, fun j hj => absurd hj (by omega), rfl⟩
    case round =>
      obtain ⟨k, d, rfl, hk, rfl, hall, rfl⟩ := hrel
      by_cases hlt : k < 7
      · have hg := H1.out k (by omega)
        have hi1 : (k : Int) < (len : Int) := by omega
        have hi2 : (k : Int) < 7 := by omega
        go_wp2
        go_quiet (fail)
        go_wp2
        · have HN : Hid (false = plB c len) := miss hlt HR.out ‹_›
          go_ret
          exact ⟨d + nq, ret_bool HN.out, by simp⟩
        · have HY : Hid (∀ j, j < k + 1 → c j = tg j) := hit hlt hall.out ‹_›
          go_roundg (7 - (k + 1))
          case measure => omega
          case rel => exact ⟨k + 1, d + nq, rfl, by omega, by go_num, HY, rfl⟩
      · have HT : Hid (true = plB c len) := by
          show true = _
          rw [HR.out]
          exact ((okB_iff c).2 (fun j hj => hall.out j (by omega))).symm
        clear HR hall
        go_wp2
        go_ret
        exact ⟨d, ret_bool HT.out, rfl⟩
  · have HR : Hid (false = plB c len) := (hF.out.1 h7).symm
    have h7' : ((F : Int) != 7) = true := by simp; omega
    clear hF
    go_wp2
    go_ret
    exact ⟨0, ret_bool HR.out, rfl⟩
end Go.Proofs.Qxb6603128a
