/- isPlaylist by its contract. -/
import Derived.Test.Qxb6603128aA
import Derived.Lib.SlBytesConst
namespace Go.Proofs.Qxb6603128a
open Go.RowKit
set_option linter.unusedVariables false

def tg (j : Nat) : Int := ([35, 69, 88, 84, 77, 51, 85] : List Int).getD j 0
def cl (j : Nat) : Int := ([13, 10] : List Int).getD j 0
theorem tg_bd (j : Nat) : 0 ≤ tg j ∧ tg j ≤ 255 := by
  unfold tg
  match j with
  | 0 | 1 | 2 | 3 | 4 | 5 | 6 => decide
  | n + 7 => simp
theorem cl_bd (j : Nat) : 0 ≤ cl j ∧ cl j ≤ 255 := by
  unfold cl
  match j with
  | 0 | 1 => decide
  | n + 2 => simp
/-- What isPlaylist answers. -/
def plB (c : Nat → Int) (len : Nat) : Bool := preB c tg 0 len 7 && (len == 7 || c 7 == 10 || preB c cl 7 (len - 7) 2)

theorem cut_no (b len g : Nat) (c : Nat → Int) (w : World) (hs : len ≤ 1048576) (hc : ∀ j, 0 ≤ c j ∧ c j ≤ 255)
    (h1 : ∀ i, i < len → w.cell? ⟨b, 0 + i, none⟩ = some (.int .u8 (c (0 + i)))) (h2 : ∀ i, i < 7 → w.cell? ⟨g, 0 + i, none⟩ = some (.int .u8 (tg i))) (hp : preB c tg 0 len 7 = false) :
    Calls Try.prog 20 #[.slice (some ⟨b, 0, none⟩) len len, .slice (some ⟨g, 0, none⟩) 7 7] w fun e w' => e = .returned (.tuple #[.slice (some ⟨b, 0, none⟩) len len, .bool false]) ∧ w = w' := by
  have H1 : Hid (∀ i, i < len → w.cell? ⟨b, 0 + i, none⟩ = some (.int .u8 (c (0 + i)))) := h1
  have H2 : Hid (∀ i, i < 7 → w.cell? ⟨g, 0 + i, none⟩ = some (.int .u8 (tg i))) := h2
  have HC : Hid (∀ j, 0 ≤ c j ∧ c j ≤ 255) := hc
  clear h1 h2 hc
  go_enter Try.func20, Try.ntmps20
  go_wp2_with fail
  refine (hasPrefix_any b 0 len len g 7 c tg w (Nat.le_refl _) hs (by omega) HC.out tg_bd H1.out H2.out).mono ?_
  rintro e w' ⟨rfl, rfl⟩
  go_wp2
  go_ret2
  exact ⟨rfl, rfl⟩
theorem cut_yes (b len g : Nat) (c : Nat → Int) (w : World) (hs : len ≤ 1048576) (hl : 7 < len) (hc : ∀ j, 0 ≤ c j ∧ c j ≤ 255)
    (h1 : ∀ i, i < len → w.cell? ⟨b, 0 + i, none⟩ = some (.int .u8 (c (0 + i)))) (h2 : ∀ i, i < 7 → w.cell? ⟨g, 0 + i, none⟩ = some (.int .u8 (tg i))) (hp : preB c tg 0 len 7 = true) :
    Calls Try.prog 20 #[.slice (some ⟨b, 0, none⟩) len len, .slice (some ⟨g, 0, none⟩) 7 7] w fun e w' => e = .returned (.tuple #[.slice (some ⟨b, 7, none⟩) (len - 7) (len - 7), .bool true]) ∧ w = w' := by
  have H1 : Hid (∀ i, i < len → w.cell? ⟨b, 0 + i, none⟩ = some (.int .u8 (c (0 + i)))) := h1
  have H2 : Hid (∀ i, i < 7 → w.cell? ⟨g, 0 + i, none⟩ = some (.int .u8 (tg i))) := h2
  have HC : Hid (∀ j, 0 ≤ c j ∧ c j ≤ 255) := hc
  have hne : ¬ len = 7 := by omega
  clear h1 h2 hc
  go_enter Try.func20, Try.ntmps20
  go_wp2_with fail
  refine (hasPrefix_any b 0 len len g 7 c tg w (Nat.le_refl _) hs (by omega) HC.out tg_bd H1.out H2.out).mono ?_
  rintro e w' ⟨rfl, rfl⟩
  go_wp2
  go_ret2
  exact ⟨rfl, rfl⟩
theorem cut_seven (b g : Nat) (c : Nat → Int) (w : World) (hc : ∀ j, 0 ≤ c j ∧ c j ≤ 255)
    (h1 : ∀ i, i < 7 → w.cell? ⟨b, 0 + i, none⟩ = some (.int .u8 (c (0 + i)))) (h2 : ∀ i, i < 7 → w.cell? ⟨g, 0 + i, none⟩ = some (.int .u8 (tg i))) (hp : preB c tg 0 7 7 = true) :
    Calls Try.prog 20 #[.slice (some ⟨b, 0, none⟩) 7 7, .slice (some ⟨g, 0, none⟩) 7 7] w fun e w' => e = .returned (.tuple #[.slice (some ⟨b, 0, none⟩) 0 0, .bool true]) ∧ w = w' := by
  have H1 : Hid (∀ i, i < 7 → w.cell? ⟨b, 0 + i, none⟩ = some (.int .u8 (c (0 + i)))) := h1
  have H2 : Hid (∀ i, i < 7 → w.cell? ⟨g, 0 + i, none⟩ = some (.int .u8 (tg i))) := h2
  have HC : Hid (∀ j, 0 ≤ c j ∧ c j ≤ 255) := hc
  clear h1 h2 hc
  go_enter Try.func20, Try.ntmps20
  go_wp2_with fail
  refine (hasPrefix_any b 0 7 7 g 7 c tg w (Nat.le_refl _) (by omega) (by omega) HC.out tg_bd H1.out H2.out).mono ?_
  rintro e w' ⟨rfl, rfl⟩
  go_wp2
  go_ret2
  exact ⟨rfl, rfl⟩

/-- The tag's bytes in a new block. -/
theorem tag_cells (w : World) : ∀ i, i < 7 → (w.alloc (.cells #[.int .u8 35, .int .u8 69, .int .u8 88, .int .u8 84, .int .u8 77, .int .u8 51, .int .u8 85] 5 (7, 8))).cell? ⟨w.heap.size, 0 + i, none⟩ = some (.int .u8 (tg i)) := by
  intro i hi
  have h : i = 0 ∨ i = 1 ∨ i = 2 ∨ i = 3 ∨ i = 4 ∨ i = 5 ∨ i = 6 := by omega
  rcases h with rfl | rfl | rfl | rfl | rfl | rfl | rfl <;> simp [tg, World.cell?_alloc_mark]
theorem crlf_cells (w : World) : ∀ i, i < 2 → (w.alloc (.cells #[.int .u8 13, .int .u8 10] 5 (2, 3))).cell? ⟨w.heap.size, 0 + i, none⟩ = some (.int .u8 (cl i)) := by
  intro i hi
  have h : i = 0 ∨ i = 1 := by omega
  rcases h with rfl | rfl <;> simp [cl, World.cell?_alloc_mark]

set_option maxHeartbeats 1000000 in
theorem playlist_any (b len : Nat) (c : Nat → Int) (w : World) (hs : len ≤ 1048576) (hbw : b < w.heap.size) (hc : ∀ j, 0 ≤ c j ∧ c j ≤ 255)
    (h1 : ∀ i, i < len → w.cell? ⟨b, i, none⟩ = some (.int .u8 (c i))) :
    Calls Try.prog 18 #[.slice (some ⟨b, 0, none⟩) len len] w fun e w' => e = .returned (.bool (plB c len)) ∧ Below w.heap.size w w' := by
  have H1 : Hid (∀ (o : Obj) (i : Nat), i < len → (w.alloc o).cell? ⟨b, 0 + i, none⟩ = some (.int .u8 (c (0 + i)))) := fun o i hi => by
    rw [Nat.zero_add]; exact (World.cell?_alloc_lt w o ⟨b, i, none⟩ hbw).trans (h1 i hi)
  have H1' : Hid (∀ (o o' : Obj) (i : Nat), i < len → ((w.alloc o).alloc o').cell? ⟨b, i, none⟩ = some (.int .u8 (c i))) := fun o o' i hi =>
    ((((Below.refl w.heap.size w).alloc (Nat.le_refl _) o).alloc (by simp) o').cell (p := ⟨b, i, none⟩) hbw).trans (h1 i hi)
  have HC : Hid (∀ j, 0 ≤ c j ∧ c j ≤ 255) := hc
  clear h1 hc
  have kc := fun (w : World) (C : Array Value) (n c : Nat) => Lib.run_convert_bytes_const (P := Try.prog) w 22 5 C n c Try.underlying22 Try.underlying5
  cases hp : preB c tg 0 len 7
  · have HR : Hid (false = plB c len) := by unfold plB; rw [hp]; rfl
    go_enter Try.func18, Try.ntmps18
    go_wp2_with fail
    refine (cut_no b len w.heap.size c _ hs HC.out (H1.out _) (tag_cells w) hp).mono ?_
    rintro e w' ⟨rfl, rfl⟩
    go_wp2
    go_ret
    exact ⟨ret_bool HR.out, (Below.refl _ _).alloc (Nat.le_refl _) _⟩
  · have hge : 7 ≤ len := ((preB_iff _ _ _ _ _).1 hp).1
    by_cases h7 : len = 7
    · subst h7
      have HR : Hid (true = plB c 7) := by unfold plB; rw [hp]; rfl
      go_enter Try.func18, Try.ntmps18
      go_wp2_with fail
      refine (cut_seven b w.heap.size c _ HC.out (H1.out _) (tag_cells w) hp).mono ?_
      rintro e w' ⟨rfl, rfl⟩
      go_wp2
      go_ret
      exact ⟨ret_bool HR.out, (Below.refl _ _).alloc (Nat.le_refl _) _⟩
    · have hl7 : 7 < len := by omega
      have h70 : ((len - 7 : Nat) : Int) ≠ 0 := by omega
      have hpos : (0 : Int) < ((len - 7 : Nat) : Int) := by omega
      have hg := H1.out (.cells #[.int .u8 35, .int .u8 69, .int .u8 88, .int .u8 84, .int .u8 77, .int .u8 51, .int .u8 85] 5 (7, 8)) 7 hl7
      rw [Nat.zero_add] at hg
      cases h10 : (c 7 == 10)
      · have HR : Hid (preB c cl 7 (len - 7) 2 = plB c len) := by show _ = _; unfold plB; rw [hp, h10]; simp [h7]
        go_enter Try.func18, Try.ntmps18
        go_wp2_with fail
        refine (cut_yes b len w.heap.size c _ hs hl7 HC.out (H1.out _) (tag_cells w) hp).mono ?_
        rintro e w' ⟨rfl, rfl⟩
        have kc2 := kc (w.alloc (.cells #[.int .u8 35, .int .u8 69, .int .u8 88, .int .u8 84, .int .u8 77, .int .u8 51, .int .u8 85] 5 (7, 8))) #[.int .u8 13, .int .u8 10] 2 2
        rw [show (w.alloc (.cells #[.int .u8 35, .int .u8 69, .int .u8 88, .int .u8 84, .int .u8 77, .int .u8 51, .int .u8 85] 5 (7, 8))).heap.size = w.heap.size + 1 by simp] at kc2
        go_wp2_with fail
        have hcr := crlf_cells (w.alloc (.cells #[.int .u8 35, .int .u8 69, .int .u8 88, .int .u8 84, .int .u8 77, .int .u8 51, .int .u8 85] 5 (7, 8)))
        rw [show (w.alloc (.cells #[.int .u8 35, .int .u8 69, .int .u8 88, .int .u8 84, .int .u8 77, .int .u8 51, .int .u8 85] 5 (7, 8))).heap.size = w.heap.size + 1 by simp] at hcr
        refine (hasPrefix_any b 7 (len - 7) (len - 7) (w.heap.size + 1) 2 c cl _ (Nat.le_refl _) (by omega) (by omega) HC.out cl_bd (fun i hi => H1'.out _ _ (7 + i) (by omega)) hcr).mono ?_
        rintro e w' ⟨rfl, rfl⟩
        go_wp2
        go_ret
        exact ⟨ret_bool (by rw [show (((len - 7 : Nat) : Int) == 0) = false from beq_eq_false_iff_ne.2 h70, Bool.false_or]; exact HR.out), ((Below.refl _ _).alloc (Nat.le_refl _) _).alloc (by simp) _⟩
      · have HR : Hid (true = plB c len) := by show _ = _; unfold plB; rw [hp, h10]; simp
        go_enter Try.func18, Try.ntmps18
        go_wp2_with fail
        refine (cut_yes b len w.heap.size c _ hs hl7 HC.out (H1.out _) (tag_cells w) hp).mono ?_
        rintro e w' ⟨rfl, rfl⟩
        go_wp2
        go_ret
        exact ⟨ret_bool HR.out, (Below.refl _ _).alloc (Nat.le_refl _) _⟩

theorem zzPlaylist_any (b len : Nat) (c : Nat → Int) (w : World) (hs : len ≤ 1048576) (hbw : b < w.heap.size) (hc : ∀ j, 0 ≤ c j ∧ c j ≤ 255)
    (h1 : ∀ i, i < len → w.cell? ⟨b, i, none⟩ = some (.int .u8 (c i))) :
    Calls Try.prog 10 #[.slice (some ⟨b, 0, none⟩) len len] w fun e w' => e = .returned (.bool (plB c len)) ∧ Below w.heap.size w w' := by
  have H1 : Hid (∀ i, i < len → w.cell? ⟨b, i, none⟩ = some (.int .u8 (c i))) := h1
  have HC : Hid (∀ j, 0 ≤ c j ∧ c j ≤ 255) := hc
  clear h1 hc
  go_enter Try.func10, Try.ntmps10
  go_wp2_with fail
  refine (playlist_any b len c w hs hbw HC.out H1.out).mono ?_
  rintro e w' ⟨rfl, hbel⟩
  go_wp2
  go_ret
  exact ⟨rfl, hbel⟩

/-! ### The nil slice -/
theorem hasPrefix_nil (g : Nat) (w : World) : Calls Try.prog 21 #[.slice none 0 0, .slice (some ⟨g, 0, none⟩) 7 7] w fun e w' => e = .returned (.bool false) ∧ w = w' := by
  go_enter Try.func21, Try.ntmps21
  go_wp2
  go_ret
  exact ⟨rfl, rfl⟩
theorem cut_nil (g : Nat) (w : World) : Calls Try.prog 20 #[.slice none 0 0, .slice (some ⟨g, 0, none⟩) 7 7] w fun e w' => e = .returned (.tuple #[.slice none 0 0, .bool false]) ∧ w = w' := by
  go_enter Try.func20, Try.ntmps20
  go_wp2_with fail
  refine (hasPrefix_nil g w).mono ?_
  rintro e w' ⟨rfl, rfl⟩
  go_wp2
  go_ret2
  exact ⟨rfl, rfl⟩
theorem playlist_nil (w : World) : Calls Try.prog 18 #[.slice none 0 0] w fun e w' => e = .returned (.bool false) ∧ Below w.heap.size w w' := by
  have kc := fun (w : World) (C : Array Value) (n c : Nat) => Lib.run_convert_bytes_const (P := Try.prog) w 22 5 C n c Try.underlying22 Try.underlying5
  go_enter Try.func18, Try.ntmps18
  go_wp2_with fail
  refine (cut_nil w.heap.size _).mono ?_
  rintro e w' ⟨rfl, rfl⟩
  go_wp2
  go_ret
  exact ⟨rfl, (Below.refl _ _).alloc (Nat.le_refl _) _⟩
theorem zzPlaylist_nil (w : World) : Calls Try.prog 10 #[.slice none 0 0] w fun e w' => e = .returned (.bool false) ∧ Below w.heap.size w w' := by
  go_enter Try.func10, Try.ntmps10
  go_wp2_with fail
  refine (playlist_nil w).mono ?_
  rintro e w' ⟨rfl, hbel⟩
  go_wp2
  go_ret
  exact ⟨rfl, hbel⟩
end Go.Proofs.Qxb6603128a
