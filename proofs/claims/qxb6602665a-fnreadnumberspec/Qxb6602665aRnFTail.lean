/- rnFields: from the exponent on. -/
import Derived.Test.Qxb6602665aRnB
import Derived.Deep.DeepCutAuto
import Derived.Deep.CutBlock
namespace Go.Proofs.Qxb6602665a
open Go.RowKit
set_option linter.unusedVariables false

/-- What the walk over the fields asks of the text's parts. -/
structure Parts (c : Nat → Int) (neg dot ex sgn en : Bool) (p0 p1 p2 p4 N f : Nat) : Prop where
  n1 : neg = true → p0 = 1 ∧ (c 0 == 45) = true
  n2 : neg = false → p0 = 0 ∧ (N = 0 ∨ (c 0 == 45) = false)
  o1 : p0 ≤ p1
  o2 : p1 ≤ p2
  o3 : p2 ≤ N
  notE : ∀ j, p0 ≤ j → j < p2 → (c j == 101) = false ∧ (c j == 69) = false
  notP : ∀ j, p0 ≤ j → j < p1 → (c j == 46) = false
  dotT : dot = true → p1 < p2 ∧ (c p1 == 46) = true
  dotF : dot = false → p2 = p1
  f1 : p0 ≤ f
  f2 : f ≤ p2
  fAll : ∀ j, p0 ≤ j → j < f → c j < 49
  fEnd : f = p2 ∨ (49 ≤ c f ∧ c f ≤ 57)
  exT : ex = true → p2 < N ∧ ((c p2 == 101) = true ∨ ((c p2 == 101) = false ∧ (c p2 == 69) = true)) ∧ p2 + 1 ≤ p4 ∧ p4 ≤ N ∧
    (sgn = true → p4 = p2 + 2 ∧ ((en = true ∧ (c (p2 + 1) == 45) = true ∧ (c (p2 + 1) == 43) = false) ∨ (en = false ∧ (c (p2 + 1) == 45) = false ∧ (c (p2 + 1) == 43) = true))) ∧
    (sgn = false → en = false ∧ p4 = p2 + 1 ∧ (p2 + 1 = N ∨ ((c (p2 + 1) == 45) = false ∧ (c (p2 + 1) == 43) = false))) ∧
    (∀ j, p4 ≤ j → j < N → 48 ≤ c j ∧ c j ≤ 57)
  exF : ex = false → N = p2

theorem parts_of {c : Nat → Int} {len : Nat} {S : Sh} (h : Ok c len S) : Parts c S.neg S.dot S.ex S.sgn (S.ex && S.eneg) S.p0 S.p1 S.p2 S.p4 S.N S.f := by
  have hb := h.p12
  obtain ⟨r1, r2, r3, r4⟩ := h.run1
  have hdig : ∀ j, S.p0 ≤ j → j < S.p2 → (48 ≤ c j ∧ c j ≤ 57) ∨ (S.dot = true ∧ j = S.p1 ∧ c j = 46) := by
    intro j h1 h2
    by_cases hlt : j < S.p1
    · exact .inl (r3 j h1 hlt)
    · cases hd : S.dot
      · have := h.dot_f hd; omega
      · obtain ⟨l1, h46, q1, q2, q3, q4⟩ := h.dot_t hd
        by_cases e : j = S.p1
        · subst e; exact .inr ⟨rfl, rfl, h46⟩
        · exact .inl (q3 j (by omega) h2)
  have beq : ∀ (x a : Int), x ≠ a → (x == a) = false := fun x a h => by simpa using h
  have beqT : ∀ (x a : Int), x = a → (x == a) = true := fun x a h => by simpa using h
  refine ⟨?_, ?_, hb.1, hb.2.1, hb.2.2.2.1, ?_, ?_, ?_, ?_, h.f_bd.1, h.f_bd.2, ?_, ?_, ?_, ?_⟩
  · intro hn; have := h.neg_t hn; exact ⟨this.1, beqT _ _ this.2.2⟩
  · intro hn
    have := h.neg_f hn
    refine ⟨this.1, ?_⟩
    rcases this.2 with e | e
    · left; omega
    · exact .inr (beq _ _ e)
  · intro j h1 h2
    rcases hdig j h1 h2 with d | d
    · exact ⟨beq _ _ (by omega), beq _ _ (by omega)⟩
    · exact ⟨beq _ _ (by omega), beq _ _ (by omega)⟩
  · intro j h1 h2
    have := r3 j h1 h2
    exact beq _ _ (by omega)
  · intro hd
    obtain ⟨l1, h46, q1, q2, q3, q4⟩ := h.dot_t hd
    exact ⟨by omega, beqT _ _ h46⟩
  · intro hd; exact (h.dot_f hd).1
  · intro j h1 h2
    have := h.f_all j h1 h2; omega
  · rcases h.f_end with e | e
    · exact .inl e
    · by_cases hf : S.f = S.p2
      · exact .inl hf
      · have := h.f_bd
        rcases hdig S.f (by omega) (by omega) with d | d
        · right; omega
        · omega
  · intro he
    obtain ⟨l2, hc, ⟨q1, q2, q3, q4⟩, s1, s2, n1, n2⟩ := h.ex_t he
    have hp4 : S.p2 + 1 ≤ S.p4 := by
      cases hs : S.sgn
      · have := s2 hs; omega
      · have := s1 hs; omega
    refine ⟨by omega, ?_, hp4, q1, ?_, ?_, q3⟩
    · by_cases e : c S.p2 = 101
      · exact .inl (beqT _ _ e)
      · exact .inr ⟨beq _ _ e, beqT _ _ (by omega)⟩
    · intro hs
      obtain ⟨e4, l, hcc⟩ := s1 hs
      refine ⟨e4, ?_⟩
      cases hen : S.eneg
      · right
        have := n2 hen
        rw [hs] at this
        simp at this
        exact ⟨by simp, beq _ _ this, beqT _ _ (by omega)⟩
      · left
        have := n1 hen
        exact ⟨by simp [he], beqT _ _ this.2, beq _ _ (by omega)⟩
    · intro hs
      obtain ⟨e4, hcc⟩ := s2 hs
      have hen : S.eneg = false := by
        cases hen : S.eneg
        · rfl
        · have := n1 hen; rw [hs] at this; simp at this
      refine ⟨by simp [hen], e4, ?_⟩
      by_cases e : S.p2 + 1 = S.N
      · exact .inl e
      · right
        have := q3 (S.p2 + 1) (by omega) (by omega)
        exact ⟨beq _ _ (by omega), beq _ _ (by omega)⟩
  · intro he; exact (h.ex_f he).1

theorem sat_q {c : Nat → Int} {p4 q N : Nat} (h4q : p4 ≤ q) (hqN : q ≤ N) (hz : ∀ j, p4 ≤ j → j < q → c j = 48) (hd : ∀ j, p4 ≤ j → j < N → 48 ≤ c j ∧ c j ≤ 57) (he : q = N ∨ c q ≠ 48) :
    (N - q ≤ 10 → sat c p4 (N - p4) = val c q (N - q)) ∧ (11 ≤ N - q → 1073741822 < val c q 10 → sat c p4 (N - p4) = val c q 10) ∧ (11 ≤ N - q → ¬ 1073741822 < val c q 10 → sat c p4 (N - p4) = val c q 11) := by
  have h := sat_closed c p4 (q - p4) (N - q) (fun j hj => hz (p4 + j) (by omega) (by omega)) (fun j hj => hd (p4 + (q - p4) + j) (by omega) (by omega)) (fun hm => by
    rw [show p4 + (q - p4) = q by omega]
    rcases he with h | h
    · omega
    · exact h)
  rw [show p4 + (q - p4) = q by omega, show q - p4 + (N - q) = N - p4 by omega] at h
  exact h

/-- What stands behind n statements. -/
def behindF : Nat → Code → Code
  | 0, c => c
  | n + 1, .seq _ r => behindF n r
  | _ + 1, c => c

set_option maxHeartbeats 20000000 in
set_option maxRecDepth 100000 in
theorem fields_tail (b cap : Nat) (c : Nat → Int) (w : World) (neg dot ex sgn en : Bool) (p0 p1 p2 p4 N f : Nat) (HP : Hid (Parts c neg dot ex sgn en p0 p1 p2 p4 N f))
    (fr ze xp : Int) (HX : Hid (xp = if ex then (if en then - sat c p4 (N - p4) else sat c p4 (N - p4)) else 0)) (hN : N ≤ 1048576) (hcap : N ≤ cap) (hcm : cap ≤ 1048576)
    (HC : Hid (∀ j, j < N → w.cell? ⟨b, j, none⟩ = some (.int .u8 (c j)))) (HB : Hid (∀ j, 0 ≤ c j ∧ c j ≤ 255)) (h01 : p0 ≤ p1) (h12 : p1 ≤ p2) (h2N : p2 ≤ N)
    (u1 u7 u9 u10 u11 u12 u13 u14 u15 u16 u17 u18 u19 u20 u21 u22 u23 u24 u25 u26 u27 u28 u29 u30 u31 u32 u33 u34 u35 u36 u37 u38 u39 u40 u41 u42 u43 u44 u45 u46 u47 u48 u49 u50 u51 u52 u53 u54 u55 u56 u57 u58 u59 u60 u61 u62 u63 u64 u65 u66 u67 u68 u69 u70 u71 u72 u73 u74 u75 u76 u77 u78 u79 u80 u81 u82 u83 u84 u85 u86 u87 u88 u89 u90 u91 u92 u93 u94 u95 u96 u97 u98 u99 u100 u101 u102 u103 u104 u105 u106 u107 u108 u109 u110 u111 u112 u113 u114 u115 u116 u117 u118 u119 u120 u121 u122 u123 u124 u125 u126 u127 u128 u129 u130 u131 u132 u133 u134 u135 u136 u137 u138 u139 u140 u141 u142 u143 u144 u145 u146 u147 u148 u149 u150 u151 u152 u153 u154 u155 u156 u157 u158 u159 u160 u161 u162 u163 u164 u165 u166 u167 u168 u169 u170 u171 u172 u173 u174 u175 : Value) :
    Code.wp Try.prog (behindF 12 (Try.f11.body.getD .skip)) (bodyPost Try.prog Try.f11 fun e w' => e = .returned (.tuple #[.bool neg, .int .i64 ((p1 : Int) - p0), .int .i64 fr, .int .i64 ze, .int .i64 xp]) ∧ w = w') ⟨List.toArray ((.slice (some ⟨b, 0, none⟩) N cap) :: u1 :: (.bool neg) :: (.int .i64 ((p1 : Int) - (p0 : Int))) :: (.int .i64 fr) :: (.int .i64 ze) :: (.int .i64 0) :: u7 :: (.int .i64 (p2 : Int)) :: u9 :: u10 :: u11 :: u12 :: u13 :: u14 :: u15 :: u16 :: u17 :: u18 :: u19 :: u20 :: u21 :: u22 :: u23 :: u24 :: u25 :: u26 :: u27 :: u28 :: u29 :: u30 :: u31 :: u32 :: u33 :: u34 :: u35 :: u36 :: u37 :: u38 :: u39 :: u40 :: u41 :: u42 :: u43 :: u44 :: u45 :: u46 :: u47 :: u48 :: u49 :: u50 :: u51 :: u52 :: u53 :: u54 :: u55 :: u56 :: u57 :: u58 :: u59 :: u60 :: u61 :: u62 :: u63 :: u64 :: u65 :: u66 :: u67 :: u68 :: u69 :: u70 :: u71 :: u72 :: u73 :: u74 :: u75 :: u76 :: u77 :: u78 :: u79 :: u80 :: u81 :: u82 :: u83 :: u84 :: u85 :: u86 :: u87 :: u88 :: u89 :: u90 :: u91 :: u92 :: u93 :: u94 :: u95 :: u96 :: u97 :: u98 :: u99 :: u100 :: u101 :: u102 :: u103 :: u104 :: u105 :: u106 :: u107 :: u108 :: u109 :: u110 :: u111 :: u112 :: u113 :: u114 :: u115 :: u116 :: u117 :: u118 :: u119 :: u120 :: u121 :: u122 :: u123 :: u124 :: u125 :: u126 :: u127 :: u128 :: u129 :: u130 :: u131 :: u132 :: u133 :: u134 :: u135 :: u136 :: u137 :: u138 :: u139 :: u140 :: u141 :: u142 :: u143 :: u144 :: u145 :: u146 :: u147 :: u148 :: u149 :: u150 :: u151 :: u152 :: u153 :: u154 :: u155 :: u156 :: u157 :: u158 :: u159 :: u160 :: u161 :: u162 :: u163 :: u164 :: u165 :: u166 :: u167 :: u168 :: u169 :: u170 :: u171 :: u172 :: u173 :: u174 :: u175 :: []), []⟩ w := by
  conv => arg 2; whnf
  go_upto_if 108 with fail
  cases ex
  · have hNe := HP.out.exF rfl
    subst hNe
    have hx0 : xp = 0 := HX.out
    subst hx0
    go_wp2
    exact bodyPost_ret (v := .tuple #[.bool neg, .int .i64 ((p1 : Int) - (p0 : Int)), .int .i64 fr, .int .i64 ze, .int .i64 0]) (by simp [results, Try.results11, go_sem]) rfl ⟨rfl, rfl⟩
  · have hx := HP.out.exT rfl
    have hl2 := hx.1
    have h24 := hx.2.2.1
    have h4N := hx.2.2.2.1
    have HS1 : Hid (sgn = true → p4 = p2 + 2 ∧ ((en = true ∧ (c (p2 + 1) == 45) = true ∧ (c (p2 + 1) == 43) = false) ∨ (en = false ∧ (c (p2 + 1) == 45) = false ∧ (c (p2 + 1) == 43) = true))) := hx.2.2.2.2.1
    have HS2 : Hid (sgn = false → en = false ∧ p4 = p2 + 1 ∧ (p2 + 1 = N ∨ ((c (p2 + 1) == 45) = false ∧ (c (p2 + 1) == 43) = false))) := hx.2.2.2.2.2.1
    have HD : Hid (∀ j, p4 ≤ j → j < N → 48 ≤ c j ∧ c j ≤ 57) := hx.2.2.2.2.2.2
    clear hx
    go_upto_region 33 with fail
    go_cut [128] from 18 (fun s128 wx => s128 = .bool sgn ∧ w = wx)
    case first =>
      cases sgn
      · have h := HS2.out rfl
        by_cases hl : p2 + 1 < N
        · have hg := HC.out (p2 + 1) hl
          have h45 : (c (p2 + 1) == 45) = false := by
            rcases h.2.2 with h | h
            · omega
            · exact h.1
          have h43 : (c (p2 + 1) == 43) = false := by
            rcases h.2.2 with h | h
            · omega
            · exact h.2
          clear h
          go_wp2
          go_meet
          case rel => exact ⟨rfl, rfl⟩
        · clear h
          have hl0 : ¬ (p2 : Int) + 1 < (N : Int) := by omega
          go_wp2
          go_meet
          case rel => exact ⟨rfl, rfl⟩
      · have h := HS1.out rfl
        have hl : p2 + 1 < N := by omega
        have hg := HC.out (p2 + 1) hl
        rcases h.2 with ⟨_, h45, h43⟩ | ⟨_, h45, h43⟩
        all_goals
          clear h
          go_wp2
          go_meet
          case rel => exact ⟨rfl, rfl⟩
    case rest =>
    obtain ⟨rfl, rfl⟩ := hcut
    go_upto_if 128 with fail
    go_cut [14, 15] from 18 (fun s14 s15 wx => s14 = .int .i64 (p4 : Int) ∧ s15 = .bool en ∧ w = wx)
    case first =>
      cases sgn
      · have h := HS2.out rfl
        have e1 := h.1
        have e2 := h.2.1
        clear h
        subst e1
        subst e2
        go_wp2
        go_meet
        case rel => exact ⟨rfl, rfl, rfl⟩
      · have h := HS1.out rfl
        have hl : p2 + 1 < N := by omega
        have hg := HC.out (p2 + 1) hl
        have e2 := h.1
        subst e2
        rcases h.2 with ⟨e1, h45, h43⟩ | ⟨e1, h45, h43⟩
        all_goals
          clear h
          subst e1
          go_wp2
          go_meet
          case rel => exact ⟨by go_num, rfl, rfl⟩
    case rest =>
    obtain ⟨rfl, rfl, rfl⟩ := hcut
    -- the zeros ahead
    go_upto_block 6 with fail
    go_cut [14] from 18 (fun s14 wx => ∃ q : Nat, s14 = .int .i64 (q : Int) ∧ p4 ≤ q ∧ q ≤ N ∧ Hid (∀ j, p4 ≤ j → j < q → c j = 48) ∧ Hid (q = N ∨ c q ≠ 48) ∧ w = wx)
    case first =>
      go_wp2_with fail
      go_loopg [14] (N - p4) (fun g s14 wr => ∃ k : Nat, g = N - k ∧ p4 ≤ k ∧ k ≤ N ∧ s14 = .int .i64 (k : Int) ∧ Hid (∀ j, p4 ≤ j → j < k → c j = 48) ∧ w = wr)
      case atStart => exact ⟨p4, rfl, by omega, by omega, rfl, fun j h1 h2 => absurd h1 (by omega), rfl⟩
      case round =>
        obtain ⟨k, rfl, hk0, hkN, rfl, hz, rfl⟩ := hrel
        by_cases hlt : k < N
        · have hg := HC.out k hlt
          by_cases e48 : c k = 48
          · have h1 : (c k == 48) = true := by simp [e48]
            have E : Hid (c k = 48) := e48
            clear e48
            go_wp2
            go_roundg (N - (k + 1))
            case measure => omega
            case rel => exact ⟨k + 1, rfl, by omega, by omega, by go_num, fun j h1 h2 => by
                by_cases e : j = k
                · subst e; exact E.out
                · exact hz.out j h1 (by omega), rfl⟩
          · have h1 : (c k == 48) = false := by simp [e48]
            have E : Hid (¬ c k = 48) := e48
            clear e48
            go_wp2
            go_meet
            case rel => exact ⟨k, rfl, hk0, hkN, hz, .inr E.out, rfl⟩
        · go_wp2
          go_meet
          case rel => exact ⟨k, rfl, hk0, hkN, hz, .inl (by omega), rfl⟩
    case rest =>
    obtain ⟨q, rfl, h4q, hqN, hz, hqe, rfl⟩ := hcut
    have HSAT : Hid ((N - q ≤ 10 → sat c p4 (N - p4) = val c q (N - q)) ∧ (11 ≤ N - q → 1073741822 < val c q 10 → sat c p4 (N - p4) = val c q 10) ∧ (11 ≤ N - q → ¬ 1073741822 < val c q 10 → sat c p4 (N - p4) = val c q 11)) := sat_q h4q hqN hz.out HD.out hqe.out
    obtain ⟨o, ho⟩ : ∃ o : Nat, (if cap = q then some (⟨b, 0, none⟩ : Addr) else some ⟨b, q, none⟩) = some ⟨b, o, none⟩ := by
      by_cases h : cap = q
      · exact ⟨0, if_pos h⟩
      · exact ⟨q, if_neg h⟩
    go_upto_if 155 with fail
    have hoq : Hid (q < N → o = q) := by
      intro h
      rw [if_neg (by omega)] at ho
      simp at ho
      exact ho.symm
    clear ho
    obtain ⟨m, hm⟩ : ∃ m, m = N - q := ⟨_, rfl⟩
    obtain ⟨mc, hmc⟩ : ∃ mc, mc = cap - q := ⟨_, rfl⟩
    have hle : m ≤ mc := by omega
    have hmcb : mc ≤ 1048576 := by omega
    rw [← hm] at HSAT ⊢
    rw [← hmc]
    have HCq : Hid (∀ j, j < m → w.cell? ⟨b, q + j, none⟩ = some (.int .u8 (c (q + j)))) := fun j hj => HC.out (q + j) (by omega)
    have HDq : Hid (∀ j, j < m → 48 ≤ c (q + j) ∧ c (q + j) ≤ 57) := fun j hj => HD.out (q + j) (by omega) (by omega)
    have hoq2 : Hid (0 < m → o = q) := fun h => hoq.out (by omega)
    have hmb : m ≤ 1048576 := by omega
    clear hm hmc hoq HC HD HP hz hqe
    by_cases hm0 : m = 0
    · subst hm0
      have HX2 : Hid (xp = 0) := by
        have h := HSAT.out.1 (by omega)
        have h2 := HX.out
        show xp = 0
        rw [h2, h]
        cases en <;> rfl
      clear HX HSAT hoq2 HCq HDq
      cases en
      all_goals
        go_wp2_with (go_at_call 18; refine (rnValue_zero _ _ _).mono ?_; rintro e w' ⟨rfl, rfl⟩)
        exact bodyPost_ret (v := .tuple #[.bool neg, .int .i64 ((p1 : Int) - (p0 : Int)), .int .i64 fr, .int .i64 ze, .int .i64 0]) (by simp [results, Try.results11, go_sem]) rfl ⟨by rw [HX2.out], rfl⟩
    · have ho := hoq2.out (by omega)
      subst ho
      clear hoq2
      by_cases hm10 : m ≤ 10
      · have hV : 0 ≤ val c o m ∧ val c o m < 100000000000 := val_le c o m m (Nat.le_refl _) (by omega) HDq.out
        have hX1 : sat c p4 (N - p4) = val c o m := HSAT.out.1 hm10
        clear HSAT
        cases en
        · have HX2 : Hid (xp = val c o m) := HX.out.trans hX1
          clear HX hX1
          go_wp2_with (go_at_call 18; refine (rnValue_any b o m mc o c _ (by omega) (by omega) (fun j hj => HCq.out j (by omega)) (fun j hj => HDq.out j (by omega))).mono ?_; rintro e w' ⟨rfl, rfl⟩)
          exact bodyPost_ret (v := .tuple #[.bool neg, .int .i64 ((p1 : Int) - (p0 : Int)), .int .i64 fr, .int .i64 ze, .int .i64 (val c o m)]) (by simp [results, Try.results11, go_sem]) rfl ⟨by rw [HX2.out], rfl⟩
        · have HX2 : Hid (xp = - val c o m) := HX.out.trans (by rw [hX1]; rfl)
          clear HX hX1
          go_wp2_with (go_at_call 18; refine (rnValue_any b o m mc o c _ (by omega) (by omega) (fun j hj => HCq.out j (by omega)) (fun j hj => HDq.out j (by omega))).mono ?_; rintro e w' ⟨rfl, rfl⟩)
          exact bodyPost_ret (v := .tuple #[.bool neg, .int .i64 ((p1 : Int) - (p0 : Int)), .int .i64 fr, .int .i64 ze, .int .i64 (-(val c o m))]) (by simp [results, Try.results11, go_sem]) rfl ⟨by rw [HX2.out], rfl⟩
      · by_cases hm11 : 11 < m
        rotate_left
        · have hme : m = 11 := by omega
          subst hme
          by_cases hbig : 1073741822 < val c o 10
          · have hV : 0 ≤ val c o 10 ∧ val c o 10 < 100000000000 := val_le c o 10 10 (Nat.le_refl _) (by omega) (fun j hj => HDq.out j (by omega))
            have hX1 : sat c p4 (N - p4) = val c o 10 := HSAT.out.2.1 (by omega) hbig
            clear HSAT
            cases en
            · have HX2 : Hid (xp = val c o 10) := HX.out.trans hX1
              clear HX hX1
              go_wp2_with (go_at_call 18; refine (rnValue_any b o 10 mc o c _ (by omega) (by omega) (fun j hj => HCq.out j (by omega)) (fun j hj => HDq.out j (by omega))).mono ?_; rintro e w' ⟨rfl, rfl⟩)
              exact bodyPost_ret (v := .tuple #[.bool neg, .int .i64 ((p1 : Int) - (p0 : Int)), .int .i64 fr, .int .i64 ze, .int .i64 (val c o 10)]) (by simp [results, Try.results11, go_sem]) rfl ⟨by rw [HX2.out], rfl⟩
            · have HX2 : Hid (xp = - val c o 10) := HX.out.trans (by rw [hX1]; rfl)
              clear HX hX1
              go_wp2_with (go_at_call 18; refine (rnValue_any b o 10 mc o c _ (by omega) (by omega) (fun j hj => HCq.out j (by omega)) (fun j hj => HDq.out j (by omega))).mono ?_; rintro e w' ⟨rfl, rfl⟩)
              exact bodyPost_ret (v := .tuple #[.bool neg, .int .i64 ((p1 : Int) - (p0 : Int)), .int .i64 fr, .int .i64 ze, .int .i64 (-(val c o 10))]) (by simp [results, Try.results11, go_sem]) rfl ⟨by rw [HX2.out], rfl⟩
          · have hV : 0 ≤ val c o 11 ∧ val c o 11 < 100000000000 := val_le c o 11 11 (Nat.le_refl _) (by omega) (fun j hj => HDq.out j (by omega))
            have hX1 : sat c p4 (N - p4) = val c o 11 := HSAT.out.2.2 (by omega) hbig
            clear HSAT
            cases en
            · have HX2 : Hid (xp = val c o 11) := HX.out.trans hX1
              clear HX hX1
              go_wp2_with fail
              refine (rnValue_any b o 10 mc o c _ (by omega) (by omega) (fun j hj => HCq.out j (by omega)) (fun j hj => HDq.out j (by omega))).mono ?_
              rintro e w' ⟨rfl, rfl⟩
              go_wp2_with fail
              refine (rnValue_any b o 11 mc o c _ (by omega) (by omega) (fun j hj => HCq.out j (by omega)) (fun j hj => HDq.out j (by omega))).mono ?_
              rintro e w' ⟨rfl, rfl⟩
              go_wp2_with fail
              exact bodyPost_ret (v := .tuple #[.bool neg, .int .i64 ((p1 : Int) - (p0 : Int)), .int .i64 fr, .int .i64 ze, .int .i64 (val c o 11)]) (by simp [results, Try.results11, go_sem]) rfl ⟨by rw [HX2.out], rfl⟩
            · have HX2 : Hid (xp = - val c o 11) := HX.out.trans (by rw [hX1]; rfl)
              clear HX hX1
              go_wp2_with fail
              refine (rnValue_any b o 10 mc o c _ (by omega) (by omega) (fun j hj => HCq.out j (by omega)) (fun j hj => HDq.out j (by omega))).mono ?_
              rintro e w' ⟨rfl, rfl⟩
              go_wp2_with fail
              refine (rnValue_any b o 11 mc o c _ (by omega) (by omega) (fun j hj => HCq.out j (by omega)) (fun j hj => HDq.out j (by omega))).mono ?_
              rintro e w' ⟨rfl, rfl⟩
              go_wp2_with fail
              exact bodyPost_ret (v := .tuple #[.bool neg, .int .i64 ((p1 : Int) - (p0 : Int)), .int .i64 fr, .int .i64 ze, .int .i64 (-(val c o 11))]) (by simp [results, Try.results11, go_sem]) rfl ⟨by rw [HX2.out], rfl⟩
        · by_cases hbig : 1073741822 < val c o 10
          · have hV : 0 ≤ val c o 10 ∧ val c o 10 < 100000000000 := val_le c o 10 10 (Nat.le_refl _) (by omega) (fun j hj => HDq.out j (by omega))
            have hX1 : sat c p4 (N - p4) = val c o 10 := HSAT.out.2.1 (by omega) hbig
            clear HSAT
            cases en
            · have HX2 : Hid (xp = val c o 10) := HX.out.trans hX1
              clear HX hX1
              go_wp2_with (go_at_call 18; refine (rnValue_any b o 10 mc o c _ (by omega) (by omega) (fun j hj => HCq.out j (by omega)) (fun j hj => HDq.out j (by omega))).mono ?_; rintro e w' ⟨rfl, rfl⟩)
              exact bodyPost_ret (v := .tuple #[.bool neg, .int .i64 ((p1 : Int) - (p0 : Int)), .int .i64 fr, .int .i64 ze, .int .i64 (val c o 10)]) (by simp [results, Try.results11, go_sem]) rfl ⟨by rw [HX2.out], rfl⟩
            · have HX2 : Hid (xp = - val c o 10) := HX.out.trans (by rw [hX1]; rfl)
              clear HX hX1
              go_wp2_with (go_at_call 18; refine (rnValue_any b o 10 mc o c _ (by omega) (by omega) (fun j hj => HCq.out j (by omega)) (fun j hj => HDq.out j (by omega))).mono ?_; rintro e w' ⟨rfl, rfl⟩)
              exact bodyPost_ret (v := .tuple #[.bool neg, .int .i64 ((p1 : Int) - (p0 : Int)), .int .i64 fr, .int .i64 ze, .int .i64 (-(val c o 10))]) (by simp [results, Try.results11, go_sem]) rfl ⟨by rw [HX2.out], rfl⟩
          · have hV : 0 ≤ val c o 11 ∧ val c o 11 < 100000000000 := val_le c o 11 11 (Nat.le_refl _) (by omega) (fun j hj => HDq.out j (by omega))
            have hX1 : sat c p4 (N - p4) = val c o 11 := HSAT.out.2.2 (by omega) hbig
            clear HSAT
            cases en
            · have HX2 : Hid (xp = val c o 11) := HX.out.trans hX1
              clear HX hX1
              go_wp2_with fail
              refine (rnValue_any b o 10 mc o c _ (by omega) (by omega) (fun j hj => HCq.out j (by omega)) (fun j hj => HDq.out j (by omega))).mono ?_
              rintro e w' ⟨rfl, rfl⟩
              go_wp2_with fail
              refine (rnValue_any b o 11 mc o c _ (by omega) (by omega) (fun j hj => HCq.out j (by omega)) (fun j hj => HDq.out j (by omega))).mono ?_
              rintro e w' ⟨rfl, rfl⟩
              go_wp2_with fail
              exact bodyPost_ret (v := .tuple #[.bool neg, .int .i64 ((p1 : Int) - (p0 : Int)), .int .i64 fr, .int .i64 ze, .int .i64 (val c o 11)]) (by simp [results, Try.results11, go_sem]) rfl ⟨by rw [HX2.out], rfl⟩
            · have HX2 : Hid (xp = - val c o 11) := HX.out.trans (by rw [hX1]; rfl)
              clear HX hX1
              go_wp2_with fail
              refine (rnValue_any b o 10 mc o c _ (by omega) (by omega) (fun j hj => HCq.out j (by omega)) (fun j hj => HDq.out j (by omega))).mono ?_
              rintro e w' ⟨rfl, rfl⟩
              go_wp2_with fail
              refine (rnValue_any b o 11 mc o c _ (by omega) (by omega) (fun j hj => HCq.out j (by omega)) (fun j hj => HDq.out j (by omega))).mono ?_
              rintro e w' ⟨rfl, rfl⟩
              go_wp2_with fail
              exact bodyPost_ret (v := .tuple #[.bool neg, .int .i64 ((p1 : Int) - (p0 : Int)), .int .i64 fr, .int .i64 ze, .int .i64 (-(val c o 11))]) (by simp [results, Try.results11, go_sem]) rfl ⟨by rw [HX2.out], rfl⟩
end Go.Proofs.Qxb6602665a
