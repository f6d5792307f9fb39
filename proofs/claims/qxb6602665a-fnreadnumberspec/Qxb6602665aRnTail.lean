/- readNumber: from the exponent on. -/
import Derived.Test.Qxb6602665aRnB
import Derived.Deep.DeepCutAuto
import Derived.Deep.CutBlock
import Derived.RegionTactic
import Derived.ChangeAlike
namespace Go.Proofs.Qxb6602665a
open Go.RowKit
set_option linter.unusedVariables false

theorem setCell_drewN (w : World) (n : Nat) (a : Addr) (v : Value) : (w.drewN n).setCell a v = (w.setCell a v).drewN n := rfl
theorem setCells_drewN (w : World) (n : Nat) (b o : Nat) (vs : List Value) : (w.drewN n).setCells b o vs = (w.setCells b o vs).drewN n := by
  induction vs generalizing w o with
  | nil => rfl
  | cons x l ih => exact ih (w.setCell ⟨b, o, none⟩ x) (o + 1)
attribute [local go_sem] setCell_drewN setCells_drewN
theorem sign_of (c : Nat → Int) (len : Nat) : ∃ (neg : Bool) (p0 : Nat), Hid ((neg = true → p0 = 1 ∧ 0 < len ∧ c 0 = 45) ∧ (neg = false → p0 = 0 ∧ (len = 0 ∨ c 0 ≠ 45))) := by
  by_cases h : 0 < len ∧ c 0 = 45
  · exact ⟨true, 1, fun _ => ⟨rfl, h⟩, fun h => by cases h⟩
  · exact ⟨false, 0, fun h => (by cases h), fun _ => ⟨rfl, by omega⟩⟩
theorem is_of (p : Prop) [Decidable p] : ∃ t : Bool, Hid ((t = true → p) ∧ (t = false → ¬ p)) := by
  by_cases h : p
  · exact ⟨true, fun _ => h, fun h => by cases h⟩
  · exact ⟨false, fun h => (by cases h), fun _ => h⟩
/-- The zeros among the first k bytes from a. -/
def cz (c : Nat → Int) (a : Nat) : Nat → Int
  | 0 => 0
  | k + 1 => if c (a + k) = 48 then cz c a k + 1 else cz c a k
theorem cz_succ (c : Nat → Int) (a k : Nat) : cz c a (k + 1) = if c (a + k) = 48 then cz c a k + 1 else cz c a k := rfl
theorem cz_bd (c : Nat → Int) (a k : Nat) : 0 ≤ cz c a k ∧ cz c a k ≤ k := by
  induction k with
  | zero => simp [cz]
  | succ n ih => rw [cz_succ]; split <;> omega

theorem fr_of (p1 p2 : Nat) : (p2 : Int) - ((p1 : Int) + 1) = if true then (p2 : Int) - (p1 : Int) - 1 else 0 := by simp; omega
theorem all_snoc {c : Nat → Int} {p0 k : Nat} (h : Hid (∀ j, p0 ≤ j → j < p0 + k → c j = 48 ∨ c j = 46)) (hk : c (p0 + k) = 48 ∨ c (p0 + k) = 46) : Hid (∀ j, p0 ≤ j → j < p0 + (k + 1) → c j = 48 ∨ c j = 46) := by
  intro j h1 h2
  by_cases e : j = p0 + k
  · subst e; exact hk
  · exact h.out j h1 (by omega)

theorem ok_noex {c : Nat → Int} {len : Nat} {neg dot : Bool} {p0 p1 p2 kf : Nat} (a1 : neg = true → p0 = 1 ∧ 0 < len ∧ c 0 = 45) (a2 : neg = false → p0 = 0 ∧ (len = 0 ∨ c 0 ≠ 45)) (r1 : Run c len p0 p1)
    (d1 : dot = true → p1 < len ∧ c p1 = 46 ∧ Run c len (p1 + 1) p2) (d2 : dot = false → p2 = p1 ∧ (p1 = len ∨ c p1 ≠ 46)) (f1 : p0 + kf ≤ p2) (f2 : ∀ j, p0 ≤ j → j < p0 + kf → c j = 48 ∨ c j = 46)
    (f3 : p0 + kf = p2 ∨ (c (p0 + kf) ≠ 48 ∧ c (p0 + kf) ≠ 46)) (e : p2 = len ∨ (c p2 ≠ 101 ∧ c p2 ≠ 69)) : Ok c len (Sh.mk neg dot false false false p0 p1 p2 p2 p2 (p0 + kf)) where
  neg_t := a1
  neg_f := a2
  run1 := r1
  dot_t := d1
  dot_f := d2
  f_bd := ⟨by show p0 ≤ p0 + kf; omega, f1⟩
  f_all := f2
  f_end := f3
  ex_t := fun h => by cases h
  ex_f := fun _ => ⟨rfl, e⟩
theorem ok_ex {c : Nat → Int} {len : Nat} {neg dot sgn en : Bool} {p0 p1 p2 kf p4 N : Nat} (a1 : neg = true → p0 = 1 ∧ 0 < len ∧ c 0 = 45) (a2 : neg = false → p0 = 0 ∧ (len = 0 ∨ c 0 ≠ 45)) (r1 : Run c len p0 p1)
    (d1 : dot = true → p1 < len ∧ c p1 = 46 ∧ Run c len (p1 + 1) p2) (d2 : dot = false → p2 = p1 ∧ (p1 = len ∨ c p1 ≠ 46)) (f1 : p0 + kf ≤ p2) (f2 : ∀ j, p0 ≤ j → j < p0 + kf → c j = 48 ∨ c j = 46)
    (f3 : p0 + kf = p2 ∨ (c (p0 + kf) ≠ 48 ∧ c (p0 + kf) ≠ 46)) (e : p2 < len ∧ (c p2 = 101 ∨ c p2 = 69)) (r4 : Run c len p4 N)
    (s1 : sgn = true → p4 = p2 + 2 ∧ p2 + 1 < len ∧ (c (p2 + 1) = 45 ∨ c (p2 + 1) = 43)) (s2 : sgn = false → p4 = p2 + 1 ∧ (p2 + 1 = len ∨ (c (p2 + 1) ≠ 45 ∧ c (p2 + 1) ≠ 43)))
    (n1 : en = true → sgn = true ∧ c (p2 + 1) = 45) (n2 : en = false → sgn = false ∨ c (p2 + 1) ≠ 45) : Ok c len (Sh.mk neg dot true sgn en p0 p1 p2 p4 N (p0 + kf)) where
  neg_t := a1
  neg_f := a2
  run1 := r1
  dot_t := d1
  dot_f := d2
  f_bd := ⟨by show p0 ≤ p0 + kf; omega, f1⟩
  f_all := f2
  f_end := f3
  ex_t := fun _ => ⟨e.1, e.2, r4, s1, s2, n1, n2⟩
  ex_f := fun h => by cases h
/-- No point among the first k: all are zeros. -/
theorem cz_all (c : Nat → Int) (a k : Nat) (h : ∀ j, j < k → c (a + j) = 48) : cz c a k = k := by
  induction k with
  | zero => rfl
  | succ n ih =>
    rw [cz_succ, if_pos (h n (by omega)), ih (fun j hj => h j (by omega))]
    rfl
/-- The point at place d among the first k. -/
theorem cz_dot (c : Nat → Int) (a k d : Nat) (hd : d < k) (h46 : c (a + d) = 46) (h : ∀ j, j < k → j ≠ d → c (a + j) = 48) : cz c a k = (k : Int) - 1 := by
  induction k with
  | zero => omega
  | succ n ih =>
    by_cases e : d = n
    · subst e
      rw [cz_succ, if_neg (by omega), cz_all c a d (fun j hj => h j (by omega) (by omega))]
      omega
    · rw [cz_succ, if_pos (h n (by omega) (fun x => e x.symm)), ih (by omega) (fun j hj hne => h j (by omega) hne)]
      omega
theorem zeros_eq {c : Nat → Int} {len : Nat} {S : Sh} (h : Ok c len S) (kf : Nat) (hf : S.f = S.p0 + kf) : cz c S.p0 kf = S.zeros := by
  obtain ⟨r1, r2, r3, r4⟩ := h.run1
  have hb := h.f_bd
  unfold Sh.zeros
  by_cases hd : S.dot = true ∧ S.p1 < S.f
  · rw [if_pos hd]
    obtain ⟨l1, h46, q1, q2, q3, q4⟩ := h.dot_t hd.1
    have := cz_dot c S.p0 kf (S.p1 - S.p0) (by omega) (by rw [show S.p0 + (S.p1 - S.p0) = S.p1 by omega]; exact h46) (fun j hj hne => by
      rcases h.f_all (S.p0 + j) (by omega) (by omega) with e | e
      · exact e
      · by_cases hlt : S.p0 + j < S.p1
        · have := r3 (S.p0 + j) (by omega) hlt; omega
        · have := q3 (S.p0 + j) (by omega) (by omega); omega)
    rw [this]; omega
  · rw [if_neg hd]
    have := cz_all c S.p0 kf (fun j hj => by
      rcases h.f_all (S.p0 + j) (by omega) (by omega) with e | e
      · exact e
      · by_cases hlt : S.p0 + j < S.p1
        · have := r3 (S.p0 + j) (by omega) hlt; omega
        · cases hdt : S.dot
          · have := h.dot_f hdt; omega
          · rw [hdt] at hd; simp at hd; omega)
    rw [this]; omega

theorem dig_snoc {c : Nat → Int} {a m : Nat} (h : Hid (∀ j, a ≤ j → j < m → 48 ≤ c j ∧ c j ≤ 57)) (hm : 48 ≤ c m ∧ c m ≤ 57) : Hid (∀ j, a ≤ j → j < m + 1 → 48 ≤ c j ∧ c j ≤ 57) := by
  intro j h1 h2
  by_cases e : j = m
  · subst e; exact hm
  · exact h.out j h1 (by omega)
theorem sg1 {c : Nat → Int} {len p2 p4 : Nat} {sgn : Bool} (a : sgn = true → p2 + 1 < len ∧ (c (p2 + 1) = 45 ∨ c (p2 + 1) = 43)) (b : sgn = true → p4 = p2 + 2) : sgn = true → p4 = p2 + 2 ∧ p2 + 1 < len ∧ (c (p2 + 1) = 45 ∨ c (p2 + 1) = 43) :=
  fun h => ⟨b h, a h⟩
theorem sg2 {c : Nat → Int} {len p2 p4 : Nat} {sgn : Bool} (hl : p2 + 1 ≤ len) (a : sgn = false → ¬ (p2 + 1 < len ∧ (c (p2 + 1) = 45 ∨ c (p2 + 1) = 43))) (b : sgn = false → p4 = p2 + 1) : sgn = false → p4 = p2 + 1 ∧ (p2 + 1 = len ∨ (c (p2 + 1) ≠ 45 ∧ c (p2 + 1) ≠ 43)) :=
  fun h => ⟨b h, by have := a h; omega⟩
theorem sg3 {c : Nat → Int} {len p2 : Nat} {sgn en : Bool} (a : en = true → p2 + 1 < len ∧ c (p2 + 1) = 45) (b : sgn = false → ¬ (p2 + 1 < len ∧ (c (p2 + 1) = 45 ∨ c (p2 + 1) = 43))) : en = true → sgn = true ∧ c (p2 + 1) = 45 := by
  intro h
  have h1 := a h
  refine ⟨?_, h1.2⟩
  cases hs : sgn
  · have := b hs; omega
  · rfl
theorem sg4 {c : Nat → Int} {len p2 : Nat} {sgn en : Bool} (b : sgn = true → p2 + 1 < len ∧ (c (p2 + 1) = 45 ∨ c (p2 + 1) = 43)) (a : en = false → ¬ (p2 + 1 < len ∧ c (p2 + 1) = 45)) : en = false → sgn = false ∨ c (p2 + 1) ≠ 45 := by
  intro h
  have h1 := a h
  cases hs : sgn
  · exact .inl rfl
  · have := b hs; right; omega
theorem bel_St {w : World} {b len cap : Nat} {neg : Bool} {wh fr ze ex n : Int} {d : Nat} : Below w.heap.size w ((St w b len cap neg wh fr ze ex n).drewN d) :=
  below_drewN ((((Below.refl w.heap.size w).alloc (Nat.le_refl _) _).alloc (by simp) _).alloc (by simp; omega) _) d

/-- What stands behind n statements. -/
def behind : Nat → Code → Code
  | 0, c => c
  | n + 1, .seq _ r => behind n r
  | _ + 1, c => c

set_option maxHeartbeats 20000000 in
set_option maxRecDepth 100000 in
theorem read_tail (b len : Nat) (c : Nat → Int) (w : World) (hs : len ≤ 1048576) (hbw : b < w.heap.size)
    (HO : Hid (∀ (neg : Bool) (wh fr ze ex n : Int) (j : Nat), j < len → (((w.alloc (.cells #[.slice (some ⟨b, 0, none⟩) len len] 22)).alloc (.cells #[.bool neg, .int .i64 wh, .int .i64 fr, .int .i64 ze, .int .i64 ex] 34)).alloc (.cells #[.int .i64 n] 3)).cell? ⟨b, j, none⟩ = some (.int .u8 (c j)))) (HB : Hid (∀ j, 0 ≤ c j ∧ c j ≤ 255))
    (neg dot : Bool) (p0 p1 p2 kf : Nat) (fr ze : Int) (hneg : Hid ((neg = true → p0 = 1 ∧ 0 < len ∧ c 0 = 45) ∧ (neg = false → p0 = 0 ∧ (len = 0 ∨ c 0 ≠ 45)))) (hp0 : p0 ≤ len)
    (hrun1 : Run c len p0 p1) (h01 : p0 ≤ p1) (hp1 : p1 ≤ len) (hdots : Hid ((dot = true → p1 < len ∧ c p1 = 46 ∧ Run c len (p1 + 1) p2) ∧ (dot = false → p2 = p1 ∧ (p1 = len ∨ c p1 ≠ 46))))
    (hfr : Hid (fr = if dot then (p2 : Int) - (p1 : Int) - 1 else 0)) (h12 : p1 ≤ p2) (hp2 : p2 ≤ len) (hkf : p0 + kf ≤ p2)
    (hall : Hid (∀ j, p0 ≤ j → j < p0 + kf → c j = 48 ∨ c j = 46)) (hfend : Hid (p0 + kf = p2 ∨ (c (p0 + kf) ≠ 48 ∧ c (p0 + kf) ≠ 46))) (hze : Hid (ze = cz c p0 kf))
    (u7 u9 u10 u11 u12 u13 u14 u15 u16 u17 u18 u19 u20 u21 u22 u23 u24 u25 u26 u27 u28 u29 u30 u31 u32 u33 u34 u35 u36 u37 u38 u39 u40 u41 u42 u43 u44 u45 u46 u47 u48 u49 u50 u51 u52 u53 u54 u55 u56 u57 u58 u59 u60 u61 u62 u63 u64 u65 u66 u67 u68 u69 u70 u71 u72 u73 u74 u75 u76 u77 u78 u79 u80 u81 u82 u83 u84 u85 u86 u87 u88 u89 u90 u91 u92 u93 u94 u95 u96 u97 u98 u99 u100 u101 u102 u103 u104 u105 u106 u107 u108 u109 u110 u111 u112 u113 u114 u115 u116 u117 u118 u119 u120 u121 u122 u123 u124 u125 u126 u127 u128 u129 u130 u131 u132 u133 u134 u135 u136 u137 u138 u139 u140 u141 u142 u143 u144 u145 u146 u147 u148 u149 u150 : Value) :
    Code.wp Try.prog (behind 7 (Try.f16.body.getD .skip)) (bodyPost Try.prog Try.f16 fun e w' => ∃ S : Sh, Ok c len S ∧ e = .returned (.tuple #[.agg #[.bool S.neg, .int .i64 S.whole, .int .i64 S.frac, .int .i64 S.zeros, .int .i64 (S.exp c)], .int .i64 S.N]) ∧ Below w.heap.size w w') ⟨List.toArray ((.slice (some ⟨b, 0, none⟩) len len) :: (.pointer (some ⟨w.heap.size, 0, none⟩)) :: (.pointer (some ⟨w.heap.size + 1, 0, none⟩)) :: (.pointer (some ⟨w.heap.size + 1 + 1, 0, none⟩)) :: (.func (.func 20) #[] #[.pointer (some ⟨w.heap.size + 1 + 1, 0, none⟩), .pointer (some ⟨w.heap.size, 0, none⟩)]) :: (.int .i64 (p0 : Int)) :: undef :: u7 :: undef :: u9 :: u10 :: u11 :: u12 :: u13 :: u14 :: u15 :: u16 :: u17 :: u18 :: u19 :: u20 :: u21 :: u22 :: u23 :: u24 :: u25 :: u26 :: u27 :: u28 :: u29 :: u30 :: u31 :: u32 :: u33 :: u34 :: u35 :: u36 :: u37 :: u38 :: u39 :: u40 :: u41 :: u42 :: u43 :: u44 :: u45 :: u46 :: u47 :: u48 :: u49 :: u50 :: u51 :: u52 :: u53 :: u54 :: u55 :: u56 :: u57 :: u58 :: u59 :: u60 :: u61 :: u62 :: u63 :: u64 :: u65 :: u66 :: u67 :: u68 :: u69 :: u70 :: u71 :: u72 :: u73 :: u74 :: u75 :: u76 :: u77 :: u78 :: u79 :: u80 :: u81 :: u82 :: u83 :: u84 :: u85 :: u86 :: u87 :: u88 :: u89 :: u90 :: u91 :: u92 :: u93 :: u94 :: u95 :: u96 :: u97 :: u98 :: u99 :: u100 :: u101 :: u102 :: u103 :: u104 :: u105 :: u106 :: u107 :: u108 :: u109 :: u110 :: u111 :: u112 :: u113 :: u114 :: u115 :: u116 :: u117 :: u118 :: u119 :: u120 :: u121 :: u122 :: u123 :: u124 :: u125 :: u126 :: u127 :: u128 :: u129 :: u130 :: u131 :: u132 :: u133 :: u134 :: u135 :: u136 :: u137 :: u138 :: u139 :: u140 :: u141 :: u142 :: u143 :: u144 :: u145 :: u146 :: u147 :: u148 :: u149 :: u150 :: []), []⟩ (((w.alloc (.cells #[.slice (some ⟨b, 0, none⟩) len len] 22)).alloc (.cells #[.bool neg, .int .i64 ((p1 : Int) - (p0 : Int)), .int .i64 fr, .int .i64 ze, .int .i64 0] 34)).alloc (.cells #[.int .i64 (p2 : Int)] 3)) := by
  conv => arg 2; whnf
  go_upto_region 17 with fail
  obtain ⟨ex, hex⟩ := is_of (p2 < len ∧ (c p2 = 101 ∨ c p2 = 69))
  go_cut [83] from 9 (fun s83 wx => s83 = .bool ex ∧ wx = ((w.alloc (.cells #[.slice (some ⟨b, 0, none⟩) len len] 22)).alloc (.cells #[.bool neg, .int .i64 ((p1 : Int) - (p0 : Int)), .int .i64 fr, .int .i64 ze, .int .i64 0] 34)).alloc (.cells #[.int .i64 (p2 : Int)] 3))
  case first =>
    by_cases hl : p2 < len
    · have hg := HO.out neg ((p1 : Int) - (p0 : Int)) fr ze 0 p2 p2 hl
      cases ex
      · have h1 : (c p2 == 101) = false := by have := hex.out.2 rfl; simp; omega
        have h2 : (c p2 == 69) = false := by have := hex.out.2 rfl; simp; omega
        go_wp2
        go_meet
        case rel => exact ⟨rfl, rfl⟩
      · by_cases e1 : c p2 = 101
        · have h1 : (c p2 == 101) = true := by simp [e1]
          clear e1
          go_wp2
          go_meet
          case rel => exact ⟨rfl, rfl⟩
        · have h1 : (c p2 == 101) = false := by simp [e1]
          have h2 : (c p2 == 69) = true := by have := hex.out.1 rfl; simp; omega
          clear e1
          go_wp2
          go_meet
          case rel => exact ⟨rfl, rfl⟩
    · cases ex
      · have hl0 : ¬ (p2 : Int) < (len : Int) := by omega
        go_wp2
        go_meet
        case rel => exact ⟨rfl, rfl⟩
      · have := hex.out.1 rfl; omega
  case rest =>
  obtain ⟨rfl, rfl⟩ := hcut
  go_upto_if 83 with fail
  cases ex
  · -- no exponent
    have hok : Ok c len (Sh.mk neg dot false false false p0 p1 p2 p2 p2 (p0 + kf)) := ok_noex hneg.out.1 hneg.out.2 hrun1 hdots.out.1 hdots.out.2 hkf hall.out hfend.out (by have := hex.out.2 rfl; omega)
    have HZ : Hid (ze = (Sh.mk neg dot false false false p0 p1 p2 p2 p2 (p0 + kf)).zeros) := hze.out.trans (zeros_eq hok kf rfl)
    have HK : Hid (Ok c len (Sh.mk neg dot false false false p0 p1 p2 p2 p2 (p0 + kf))) := hok
    clear hok hdots hneg hall hfend hze hex
    go_wp2
    go_region
    all_goals
      go_wp2
      refine bodyPost_ret (v := .tuple #[.agg #[.bool neg, .int .i64 ((p1 : Int) - (p0 : Int)), .int .i64 fr, .int .i64 ze, .int .i64 0], .int .i64 (p2 : Int)]) (by simp [results, Try.results16, go_sem]) rfl ⟨_, HK.out, ?_, bel_St (d := 1)⟩
      rw [hfr.out, HZ.out]; rfl
  · -- an exponent
    have hxe : Hid (p2 < len ∧ (c p2 = 101 ∨ c p2 = 69)) := hex.out.1 rfl
    have hl2 : p2 < len := hxe.out.1
    clear hex
    go_upto_region 19 with fail
    obtain ⟨en, hen⟩ := is_of (p2 + 1 < len ∧ c (p2 + 1) = 45)
    go_cut [8] from 9 (fun s8 wx => s8 = .bool en ∧ wx = ((w.alloc (.cells #[.slice (some ⟨b, 0, none⟩) len len] 22)).alloc (.cells #[.bool neg, .int .i64 ((p1 : Int) - (p0 : Int)), .int .i64 fr, .int .i64 ze, .int .i64 0] 34)).alloc (.cells #[.int .i64 ((p2 : Int) + 1)] 3))
    case first =>
      by_cases hl : p2 + 1 < len
      · have hg := HO.out neg ((p1 : Int) - (p0 : Int)) fr ze 0 ((p2 : Int) + 1) (p2 + 1) hl
        cases en
        · have h1 : (c (p2 + 1) == 45) = false := by have := hen.out.2 rfl; simp; omega
          go_wp2
          go_meet
          case rel => exact ⟨rfl, rfl⟩
        · have h1 : (c (p2 + 1) == 45) = true := by have := hen.out.1 rfl; simp; omega
          go_wp2
          go_meet
          case rel => exact ⟨rfl, rfl⟩
      · cases en
        · have hl0 : ¬ (p2 : Int) + 1 < (len : Int) := by omega
          go_wp2
          go_meet
          case rel => exact ⟨rfl, rfl⟩
        · have := hen.out.1 rfl; omega
    case rest =>
    obtain ⟨rfl, rfl⟩ := hcut
    go_upto_region 20 with fail
    obtain ⟨sgn, hsgn⟩ := is_of (p2 + 1 < len ∧ (c (p2 + 1) = 45 ∨ c (p2 + 1) = 43))
    go_cut [114] from 9 (fun s114 wx => s114 = .bool sgn ∧ wx = ((w.alloc (.cells #[.slice (some ⟨b, 0, none⟩) len len] 22)).alloc (.cells #[.bool neg, .int .i64 ((p1 : Int) - (p0 : Int)), .int .i64 fr, .int .i64 ze, .int .i64 0] 34)).alloc (.cells #[.int .i64 ((p2 : Int) + 1)] 3))
    case first =>
      by_cases hl : p2 + 1 < len
      · have hg := HO.out neg ((p1 : Int) - (p0 : Int)) fr ze 0 ((p2 : Int) + 1) (p2 + 1) hl
        cases sgn
        · have h1 : (c (p2 + 1) == 45) = false := by have := hsgn.out.2 rfl; simp; omega
          have h2 : (c (p2 + 1) == 43) = false := by have := hsgn.out.2 rfl; simp; omega
          go_wp2
          go_meet
          case rel => exact ⟨rfl, rfl⟩
        · by_cases e1 : c (p2 + 1) = 45
          · have h1 : (c (p2 + 1) == 45) = true := by simp [e1]
            clear e1
            go_wp2
            go_meet
            case rel => exact ⟨rfl, rfl⟩
          · have h1 : (c (p2 + 1) == 45) = false := by simp [e1]
            have h2 : (c (p2 + 1) == 43) = true := by have := hsgn.out.1 rfl; simp; omega
            clear e1
            go_wp2
            go_meet
            case rel => exact ⟨rfl, rfl⟩
      · cases sgn
        · have hl0 : ¬ (p2 : Int) + 1 < (len : Int) := by omega
          go_wp2
          go_meet
          case rel => exact ⟨rfl, rfl⟩
        · have := hsgn.out.1 rfl; omega
    case rest =>
    obtain ⟨rfl, rfl⟩ := hcut
    go_upto_if 114 with fail
    go_cut [] from 9 (fun wx => ∃ p4 : Nat, Hid ((sgn = true → p4 = p2 + 2) ∧ (sgn = false → p4 = p2 + 1)) ∧ p2 + 1 ≤ p4 ∧ p4 ≤ len ∧ wx = ((w.alloc (.cells #[.slice (some ⟨b, 0, none⟩) len len] 22)).alloc (.cells #[.bool neg, .int .i64 ((p1 : Int) - (p0 : Int)), .int .i64 fr, .int .i64 ze, .int .i64 0] 34)).alloc (.cells #[.int .i64 (p4 : Int)] 3))
    case first =>
      cases sgn
      · go_wp2
        go_meet
        case rel => exact ⟨p2 + 1, ⟨fun h => (by cases h), fun _ => rfl⟩, by omega, by omega, rfl⟩
      · have hl := (hsgn.out.1 rfl).1
        go_wp2
        go_meet
        case rel => exact ⟨p2 + 2, ⟨fun _ => rfl, fun h => (by cases h)⟩, by omega, by omega, by first | rfl | (rw [show ((p2 + 2 : Nat) : Int) = (p2 : Int) + 1 + 1 by omega])⟩
    case rest =>
    obtain ⟨p4, hp4, h24, hl4, rfl⟩ := hcut
    go_wp2_with fail
    go_loopg [] (len - p4) (fun g wr => ∃ (m k d : Nat) (e : Int), g = len - m ∧ Hid (m = p4 + k) ∧ p4 ≤ m ∧ m ≤ len ∧ Hid (∀ j, p4 ≤ j → j < m → 48 ≤ c j ∧ c j ≤ 57) ∧ Hid (e = sat c p4 k) ∧ 0 ≤ e ∧ e ≤ 10737418229 ∧ wr = (((w.alloc (.cells #[.slice (some ⟨b, 0, none⟩) len len] 22)).alloc (.cells #[.bool neg, .int .i64 ((p1 : Int) - (p0 : Int)), .int .i64 fr, .int .i64 ze, .int .i64 e] 34)).alloc (.cells #[.int .i64 (m : Int)] 3)).drewN d)
    case atStart => exact ⟨p4, 0, 0, 0, rfl, rfl, by omega, hl4, fun j h1 h2 => absurd h1 (by omega), rfl, by omega, by omega, rfl⟩
    case round =>
      obtain ⟨m, k, d, e, rfl, hmk, h4m, hml, hdig, he, e0, e1, rfl⟩ := hrel
      by_cases hlt : m < len
      · have hg := HO.out neg ((p1 : Int) - (p0 : Int)) fr ze e m m hlt
        have hbm := HB.out m
        by_cases hd : 48 ≤ c m ∧ c m ≤ 57
        · have HS : Hid (sat c p4 (k + 1) = if e ≤ 1073741822 then e * 10 + (c m - 48) else e) := by
            show sat c p4 (k + 1) = _
            rw [sat_succ, ← he.out, ← hmk.out]
          by_cases hem : e ≤ 1073741822
          · go_wp2_with (go_at_call 21; refine (isDigit_yes _ _ hd).mono ?_; rintro e w' ⟨rfl, rfl⟩)
            go_region
            all_goals
              go_wp2
              go_roundg (len - (m + 1))
              case measure => omega
              case rel => exact ⟨m + 1, k + 1, d + 1, e * 10 + (c m - 48), rfl, by rw [Hid, hmk.out]; omega, by omega, by omega, dig_snoc hdig hd, (by rw [Hid, HS.out, if_pos hem]), by omega, by omega, rfl⟩
          · go_wp2_with (go_at_call 21; refine (isDigit_yes _ _ hd).mono ?_; rintro e w' ⟨rfl, rfl⟩)
            go_roundg (len - (m + 1))
            case measure => omega
            case rel => exact ⟨m + 1, k + 1, d, e, rfl, by rw [Hid, hmk.out]; omega, by omega, by omega, dig_snoc hdig hd, (by rw [Hid, HS.out, if_neg (by omega)]), by omega, by omega, rfl⟩
        · have hd' : c m < 48 ∨ 57 < c m := by omega
          have hok : Ok c len (Sh.mk neg dot true sgn en p0 p1 p2 p4 m (p0 + kf)) := ok_ex hneg.out.1 hneg.out.2 hrun1 hdots.out.1 hdots.out.2 hkf hall.out hfend.out hxe.out ⟨h4m, hml, hdig.out, .inr hd'⟩ (sg1 hsgn.out.1 hp4.out.1) (sg2 (by omega) hsgn.out.2 hp4.out.2) (sg3 hen.out.1 hsgn.out.2) (sg4 hsgn.out.1 hen.out.2)
          have HZ : Hid (ze = (Sh.mk neg dot true sgn en p0 p1 p2 p4 m (p0 + kf)).zeros) := hze.out.trans (zeros_eq hok kf rfl)
          have HK : Hid (Ok c len (Sh.mk neg dot true sgn en p0 p1 p2 p4 m (p0 + kf))) := hok
          have HE : Hid (e = sat c p4 (m - p4)) := by
            show e = _
            rw [he.out, hmk.out, Nat.add_sub_cancel_left]
          clear hok hdots hneg hall hfend hze hen hsgn hp4 hdig he hmk
          cases en
          · go_wp2_with (go_at_call 21; refine (isDigit_no _ _ hd').mono ?_; rintro e w' ⟨rfl, rfl⟩)
            go_region
            all_goals
              go_wp2
              refine bodyPost_ret (v := .tuple #[.agg #[.bool neg, .int .i64 ((p1 : Int) - (p0 : Int)), .int .i64 fr, .int .i64 ze, .int .i64 e], .int .i64 (m : Int)]) (by simp [results, Try.results16, go_sem]) rfl ⟨_, HK.out, ?_, bel_St (d := d + 1)⟩
              rw [hfr.out, HZ.out, HE.out]; rfl
          · go_wp2_with (go_at_call 21; refine (isDigit_no _ _ hd').mono ?_; rintro e w' ⟨rfl, rfl⟩)
            go_region
            all_goals
              go_wp2
              refine bodyPost_ret (v := .tuple #[.agg #[.bool neg, .int .i64 ((p1 : Int) - (p0 : Int)), .int .i64 fr, .int .i64 ze, .int .i64 (-e)], .int .i64 (m : Int)]) (by simp [results, Try.results16, go_sem]) rfl ⟨_, HK.out, ?_, bel_St (d := d + 1)⟩
              rw [hfr.out, HZ.out, HE.out]; rfl
      · have hme : Hid (m = len) := by show m = len; omega
        have hok : Ok c len (Sh.mk neg dot true sgn en p0 p1 p2 p4 m (p0 + kf)) := ok_ex hneg.out.1 hneg.out.2 hrun1 hdots.out.1 hdots.out.2 hkf hall.out hfend.out hxe.out ⟨h4m, hml, hdig.out, .inl hme.out⟩ (sg1 hsgn.out.1 hp4.out.1) (sg2 (by omega) hsgn.out.2 hp4.out.2) (sg3 hen.out.1 hsgn.out.2) (sg4 hsgn.out.1 hen.out.2)
        have HZ : Hid (ze = (Sh.mk neg dot true sgn en p0 p1 p2 p4 m (p0 + kf)).zeros) := hze.out.trans (zeros_eq hok kf rfl)
        have HK : Hid (Ok c len (Sh.mk neg dot true sgn en p0 p1 p2 p4 m (p0 + kf))) := hok
        have HE : Hid (e = sat c p4 (m - p4)) := by
          show e = _
          rw [he.out, hmk.out, Nat.add_sub_cancel_left]
        clear hok hdots hneg hall hfend hze hen hsgn hp4 hdig he hmk
        cases en
        · go_wp2
          go_region
          all_goals
            go_wp2
            refine bodyPost_ret (v := .tuple #[.agg #[.bool neg, .int .i64 ((p1 : Int) - (p0 : Int)), .int .i64 fr, .int .i64 ze, .int .i64 e], .int .i64 (m : Int)]) (by simp [results, Try.results16, go_sem]) rfl ⟨_, HK.out, ?_, bel_St (d := d + 1)⟩
            rw [hfr.out, HZ.out, HE.out]; rfl
        · go_wp2
          go_region
          all_goals
            go_wp2
            refine bodyPost_ret (v := .tuple #[.agg #[.bool neg, .int .i64 ((p1 : Int) - (p0 : Int)), .int .i64 fr, .int .i64 ze, .int .i64 (-e)], .int .i64 (m : Int)]) (by simp [results, Try.results16, go_sem]) rfl ⟨_, HK.out, ?_, bel_St (d := d + 1)⟩
            rw [hfr.out, HZ.out, HE.out]; rfl
end Go.Proofs.Qxb6602665a
