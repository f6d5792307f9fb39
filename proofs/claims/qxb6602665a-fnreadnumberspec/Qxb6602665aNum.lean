/- A number's text, in plain words: no Go in sight. -/
namespace Go.Proofs.Qxb6602665a

/-- The automaton's step. -/
def stp (s c : Int) : Int :=
  if s = 0 then (if c = 45 ∨ (48 ≤ c ∧ c ≤ 57) then 1 else if c = 46 then 2 else if c = 101 ∨ c = 69 then 3 else -1)
  else if s = 1 then (if 48 ≤ c ∧ c ≤ 57 then 1 else if c = 46 then 2 else if c = 101 ∨ c = 69 then 3 else -1)
  else if s = 2 then (if 48 ≤ c ∧ c ≤ 57 then 2 else if c = 101 ∨ c = 69 then 3 else -1)
  else if s = 3 then (if c = 43 ∨ c = 45 ∨ (48 ≤ c ∧ c ≤ 57) then 4 else -1)
  else if s = 4 then (if 48 ≤ c ∧ c ≤ 57 then 4 else -1)
  else -1
/-- The state behind k bytes. -/
def aut (c : Nat → Int) : Nat → Int
  | 0 => 0
  | k + 1 => stp (aut c k) (c k)
theorem aut_succ (c : Nat → Int) (k : Nat) : aut c (k + 1) = stp (aut c k) (c k) := rfl
theorem stp_bd (s c : Int) : -1 ≤ stp s c ∧ stp s c ≤ 4 := by
  unfold stp
  repeat' split
  all_goals omega

/-- Where the digits' run from a ends: at b. -/
def Run (c : Nat → Int) (len a b : Nat) : Prop :=
  a ≤ b ∧ b ≤ len ∧ (∀ j, a ≤ j → j < b → 48 ≤ c j ∧ c j ≤ 57) ∧ (b = len ∨ c b < 48 ∨ 57 < c b)

/-- The exponent, saturating, behind k digits from a. -/
def sat (c : Nat → Int) (a : Nat) : Nat → Int
  | 0 => 0
  | k + 1 => if sat c a k ≤ 1073741822 then sat c a k * 10 + (c (a + k) - 48) else sat c a k
theorem sat_succ (c : Nat → Int) (a k : Nat) : sat c a (k + 1) = if sat c a k ≤ 1073741822 then sat c a k * 10 + (c (a + k) - 48) else sat c a k := rfl
/-- The plain value of k digits from a. -/
def val (c : Nat → Int) (a : Nat) : Nat → Int
  | 0 => 0
  | k + 1 => val c a k * 10 + (c (a + k) - 48)
theorem val_succ (c : Nat → Int) (a k : Nat) : val c a (k + 1) = val c a k * 10 + (c (a + k) - 48) := rfl

/-- What a number's text is made of. -/
structure Sh where
  neg : Bool
  dot : Bool
  ex : Bool
  sgn : Bool
  eneg : Bool
  p0 : Nat
  p1 : Nat
  p2 : Nat
  p4 : Nat
  N : Nat
  f : Nat

structure Ok (c : Nat → Int) (len : Nat) (S : Sh) : Prop where
  neg_t : S.neg = true → S.p0 = 1 ∧ 0 < len ∧ c 0 = 45
  neg_f : S.neg = false → S.p0 = 0 ∧ (len = 0 ∨ c 0 ≠ 45)
  run1 : Run c len S.p0 S.p1
  dot_t : S.dot = true → S.p1 < len ∧ c S.p1 = 46 ∧ Run c len (S.p1 + 1) S.p2
  dot_f : S.dot = false → S.p2 = S.p1 ∧ (S.p1 = len ∨ c S.p1 ≠ 46)
  f_bd : S.p0 ≤ S.f ∧ S.f ≤ S.p2
  f_all : ∀ j, S.p0 ≤ j → j < S.f → c j = 48 ∨ c j = 46
  f_end : S.f = S.p2 ∨ (c S.f ≠ 48 ∧ c S.f ≠ 46)
  ex_t : S.ex = true → S.p2 < len ∧ (c S.p2 = 101 ∨ c S.p2 = 69) ∧ Run c len S.p4 S.N ∧
    (S.sgn = true → S.p4 = S.p2 + 2 ∧ S.p2 + 1 < len ∧ (c (S.p2 + 1) = 45 ∨ c (S.p2 + 1) = 43)) ∧
    (S.sgn = false → S.p4 = S.p2 + 1 ∧ (S.p2 + 1 = len ∨ (c (S.p2 + 1) ≠ 45 ∧ c (S.p2 + 1) ≠ 43))) ∧
    (S.eneg = true → S.sgn = true ∧ c (S.p2 + 1) = 45) ∧ (S.eneg = false → S.sgn = false ∨ c (S.p2 + 1) ≠ 45)
  ex_f : S.ex = false → S.N = S.p2 ∧ (S.p2 = len ∨ (c S.p2 ≠ 101 ∧ c S.p2 ≠ 69))

def Sh.whole (S : Sh) : Int := (S.p1 : Int) - S.p0
def Sh.frac (S : Sh) : Int := if S.dot then (S.p2 : Int) - S.p1 - 1 else 0
def Sh.zeros (S : Sh) : Int := if S.dot = true ∧ S.p1 < S.f then (S.f : Int) - S.p0 - 1 else (S.f : Int) - S.p0
def Sh.exp (S : Sh) (c : Nat → Int) : Int := if S.ex then (if S.eneg then - sat c S.p4 (S.N - S.p4) else sat c S.p4 (S.N - S.p4)) else 0

theorem Ok.p12 {c : Nat → Int} {len : Nat} {S : Sh} (h : Ok c len S) : S.p0 ≤ S.p1 ∧ S.p1 ≤ S.p2 ∧ S.p2 ≤ len ∧ S.p2 ≤ S.N ∧ S.N ≤ len := by
  obtain ⟨a, b, _, _⟩ := h.run1
  have q : S.p1 ≤ S.p2 ∧ S.p2 ≤ len := by
    cases hd : S.dot
    · have := h.dot_f hd; omega
    · obtain ⟨x, _, y⟩ := h.dot_t hd
      have := y.1; have := y.2.1; omega
  cases he : S.ex
  · have := h.ex_f he; omega
  · obtain ⟨x, _, y, s1, s2, _⟩ := h.ex_t he
    have y1 := y.1
    have y2 := y.2.1
    cases hs : S.sgn
    · have := s2 hs; omega
    · have := s1 hs; omega

/-! ### The automaton's longest opening -/
theorem stay {c : Nat → Int} {s : Int} {a : Nat} (hs : s = 1 ∨ s = 2 ∨ s = 4) (ha : aut c a = s) : ∀ b, a ≤ b → (∀ j, a ≤ j → j < b → 48 ≤ c j ∧ c j ≤ 57) → aut c b = s := by
  intro b
  induction b with
  | zero => intro h _; have : a = 0 := by omega
            subst this; exact ha
  | succ n ih =>
    intro h hd
    by_cases e : a = n + 1
    · subst e; exact ha
    · have h1 := ih (by omega) (fun j h1 h2 => hd j h1 (by omega))
      have h2 := hd n (by omega) (by omega)
      rw [aut_succ, h1]
      unfold stp
      rcases hs with rfl | rfl | rfl
      · rw [if_neg (by omega), if_pos rfl, if_pos h2]
      · rw [if_neg (by omega), if_neg (by omega), if_pos rfl, if_pos h2]
      · rw [if_neg (by omega), if_neg (by omega), if_neg (by omega), if_neg (by omega), if_pos rfl, if_pos h2]
theorem aut_dead (c : Nat → Int) (k : Nat) (h : aut c k < 0) : ∀ m, k ≤ m → aut c m < 0 := by
  intro m
  induction m with
  | zero => intro hm; have : k = 0 := by omega
            subst this; exact h
  | succ n ih =>
    intro hm
    by_cases e : k = n + 1
    · subst e; exact h
    · have := ih (by omega)
      rw [aut_succ]
      unfold stp
      rw [if_neg (by omega), if_neg (by omega), if_neg (by omega), if_neg (by omega), if_neg (by omega)]
      omega

/-- The state ahead of the point or the exponent. -/
theorem aut_p1 {c : Nat → Int} {len : Nat} {S : Sh} (h : Ok c len S) : (aut c S.p1 = 1 ∧ 0 < S.p1) ∨ (aut c S.p1 = 0 ∧ S.p1 = 0 ∧ (len = 0 ∨ c 0 ≠ 45)) := by
  obtain ⟨r1, r2, r3, r4⟩ := h.run1
  cases hn : S.neg
  · obtain ⟨e0, hc⟩ := h.neg_f hn
    by_cases e : S.p1 = 0
    · rw [e]; exact .inr ⟨rfl, rfl, hc⟩
    · have h0 := r3 0 (by omega) (by omega)
      have h1 : aut c 1 = 1 := by
        rw [aut_succ]; show stp 0 (c 0) = 1
        unfold stp
        rw [if_pos rfl, if_pos (.inr h0)]
      exact .inl ⟨stay (.inl rfl) h1 _ (by omega) (fun j a b => r3 j (by omega) b), by omega⟩
  · obtain ⟨e1, _, hc⟩ := h.neg_t hn
    have h1 : aut c 1 = 1 := by
      rw [aut_succ]; show stp 0 (c 0) = 1
      unfold stp
      rw [if_pos rfl, if_pos (.inl hc)]
    exact .inl ⟨stay (.inl rfl) h1 _ (by omega) (fun j a b => r3 j (by omega) b), by omega⟩
theorem aut_p2 {c : Nat → Int} {len : Nat} {S : Sh} (h : Ok c len S) : 0 ≤ aut c S.p2 ∧ (S.p2 < len → (c S.p2 = 101 ∨ c S.p2 = 69 → aut c (S.p2 + 1) = 3) ∧ (c S.p2 ≠ 101 ∧ c S.p2 ≠ 69 → aut c (S.p2 + 1) = -1)) := by
  have hp1 := aut_p1 h
  obtain ⟨r1, r2, r3, r4⟩ := h.run1
  cases hd : S.dot
  · obtain ⟨e2, hc⟩ := h.dot_f hd
    rw [e2]
    refine ⟨by omega, fun hl => ⟨fun he => ?_, fun he => ?_⟩⟩
    · rw [aut_succ]
      unfold stp
      rcases hp1 with ⟨e, _⟩ | ⟨e, _, _⟩
      · rw [e, if_neg (by omega), if_pos rfl, if_neg (by omega), if_neg (by omega), if_pos he]
      · rw [e, if_pos rfl, if_neg (by omega), if_neg (by omega), if_pos he]
    · rw [aut_succ]
      unfold stp
      rcases hp1 with ⟨e, _⟩ | ⟨e, e0, h45⟩
      · rw [e, if_neg (by omega), if_pos rfl, if_neg (by omega), if_neg (by omega), if_neg (by omega)]
      · rw [e0] at hc he r4 hl
        rw [e, e0, if_pos rfl, if_neg (by omega), if_neg (by omega), if_neg (by omega)]
  · obtain ⟨l1, hc, q1, q2, q3, q4⟩ := h.dot_t hd
    have h2 : aut c (S.p1 + 1) = 2 := by
      rw [aut_succ]
      unfold stp
      rcases hp1 with ⟨e, _⟩ | ⟨e, _, _⟩
      · rw [e, if_neg (by omega), if_pos rfl, if_neg (by omega), if_pos hc]
      · rw [e, if_pos rfl, if_neg (by omega), if_pos hc]
    have h3 := stay (.inr (.inl rfl)) h2 S.p2 q1 q3
    refine ⟨by omega, fun hl => ⟨fun he => ?_, fun he => ?_⟩⟩
    · rw [aut_succ, h3]
      unfold stp
      rw [if_neg (by omega), if_neg (by omega), if_pos rfl, if_neg (by omega), if_pos he]
    · rw [aut_succ, h3]
      unfold stp
      rw [if_neg (by omega), if_neg (by omega), if_pos rfl, if_neg (by omega), if_neg (by omega)]
theorem aut_N {c : Nat → Int} {len : Nat} {S : Sh} (h : Ok c len S) : 0 ≤ aut c S.N ∧ (S.N = len ∨ aut c (S.N + 1) < 0) := by
  have hp2 := aut_p2 h
  have hb := h.p12
  cases he : S.ex
  · obtain ⟨e, hc⟩ := h.ex_f he
    rw [e]
    refine ⟨hp2.1, ?_⟩
    by_cases hl : S.p2 = len
    · exact .inl hl
    · right
      have := (hp2.2 (by omega)).2 (by omega)
      omega
  · obtain ⟨l2, hc, ⟨q1, q2, q3, q4⟩, s1, s2, _, _⟩ := h.ex_t he
    have h3 : aut c (S.p2 + 1) = 3 := (hp2.2 l2).1 hc
    cases hs : S.sgn
    · obtain ⟨e4, hs2⟩ := s2 hs
      by_cases e : S.N = S.p4
      · rw [e, e4]
        refine ⟨by omega, ?_⟩
        by_cases hl : S.p2 + 1 = len
        · exact .inl hl
        · right
          rw [e, e4] at q4
          rw [aut_succ, h3]
          unfold stp
          rw [if_neg (by omega), if_neg (by omega), if_neg (by omega), if_pos rfl, if_neg (by omega)]
          omega
      · have d0 := q3 S.p4 (by omega) (by omega)
        rw [e4] at d0
        have h4 : aut c (S.p2 + 1 + 1) = 4 := by
          rw [aut_succ, h3]
          unfold stp
          rw [if_neg (by omega), if_neg (by omega), if_neg (by omega), if_pos rfl, if_pos (by omega)]
        have h5 := stay (.inr (.inr rfl)) h4 S.N (by omega) (fun j a b => q3 j (by omega) b)
        refine ⟨by omega, ?_⟩
        rcases q4 with q4 | q4
        · exact .inl q4
        · right
          rw [aut_succ, h5]
          unfold stp
          rw [if_neg (by omega), if_neg (by omega), if_neg (by omega), if_neg (by omega), if_pos rfl, if_neg (by omega)]
          omega
    · obtain ⟨e4, l3, hs1⟩ := s1 hs
      have h4 : aut c (S.p2 + 1 + 1) = 4 := by
        rw [aut_succ, h3]
        unfold stp
        rw [if_neg (by omega), if_neg (by omega), if_neg (by omega), if_pos rfl, if_pos (by omega)]
      have h5 := stay (.inr (.inr rfl)) h4 S.N (by omega) (fun j a b => q3 j (by omega) b)
      refine ⟨by omega, ?_⟩
      rcases q4 with q4 | q4
      · exact .inl q4
      · right
        rw [aut_succ, h5]
        unfold stp
        rw [if_neg (by omega), if_neg (by omega), if_neg (by omega), if_neg (by omega), if_pos rfl, if_neg (by omega)]
        omega
/-- Whatever the automaton answers is where the number's text ends. -/
theorem longest {c : Nat → Int} {len i : Nat} {S : Sh} (h : Ok c len S) (hi : i ≤ len) (h0 : 0 ≤ aut c i) (h1 : i = len ∨ aut c (i + 1) < 0) : i = S.N := by
  obtain ⟨n0, n1⟩ := aut_N h
  have hb := h.p12
  by_cases e1 : i < S.N
  · rcases h1 with h1 | h1
    · omega
    · have := aut_dead c (i + 1) h1 S.N (by omega); omega
  · by_cases e2 : S.N < i
    · rcases n1 with n1 | n1
      · omega
      · have := aut_dead c (S.N + 1) n1 i (by omega); omega
    · omega

/-! ### The exponent's closed form -/
theorem sat_zero (c : Nat → Int) (a z : Nat) (hz : ∀ j, j < z → c (a + j) = 48) : sat c a z = 0 := by
  induction z with
  | zero => rfl
  | succ n ih =>
    rw [sat_succ, ih (fun j hj => hz j (by omega)), if_pos (by omega), hz n (by omega)]
    omega
theorem sat_shift (c : Nat → Int) (a z : Nat) (hz : sat c a z = 0) : ∀ k, sat c a (z + k) = sat c (a + z) k := by
  intro k
  induction k with
  | zero => exact hz
  | succ n ih =>
    rw [← Nat.add_assoc, sat_succ, sat_succ, ih, Nat.add_assoc]
/-- ten to the k -/
def ten : Nat → Int
  | 0 => 1
  | k + 1 => ten k * 10
theorem val_bd (c : Nat → Int) (a : Nat) (k : Nat) (hd : ∀ j, j < k → 48 ≤ c (a + j) ∧ c (a + j) ≤ 57) : 0 ≤ val c a k ∧ val c a k < ten k := by
  induction k with
  | zero => exact ⟨by simp [val], by simp [val, ten]⟩
  | succ n ih =>
    have h1 := ih (fun j hj => hd j (by omega))
    have h2 := hd n (by omega)
    rw [val_succ]
    show _ ∧ _ < ten n * 10
    omega
theorem val_lead (c : Nat → Int) (a : Nat) (k : Nat) (hd : ∀ j, j < k + 1 → 48 ≤ c (a + j) ∧ c (a + j) ≤ 57) (h0 : c a ≠ 48) : ten k ≤ val c a (k + 1) := by
  induction k with
  | zero =>
    have := hd 0 (by omega)
    simp only [Nat.add_zero] at this
    rw [val_succ]
    simp only [val, ten, Nat.add_zero]
    omega
  | succ n ih =>
    have h1 := ih (fun j hj => hd j (by omega))
    have h2 := hd (n + 1) (by omega)
    rw [val_succ]
    show ten n * 10 ≤ _
    omega
theorem ten9 : ten 9 = 1000000000 := by decide
theorem ten10 : ten 10 = 10000000000 := by decide
theorem ten11 : ten 11 = 100000000000 := by decide
theorem ten_mono (a b : Nat) (h : a ≤ b) : ten a ≤ ten b := by
  have pos : ∀ k, 0 < ten k := by
    intro k
    induction k with
    | zero => decide
    | succ n ih => show 0 < ten n * 10; omega
  induction b with
  | zero => have : a = 0 := by omega
            subst this; omega
  | succ n ih =>
    by_cases e : a = n + 1
    · subst e; omega
    · have h1 := ih (by omega)
      have h2 := pos n
      show ten a ≤ ten n * 10
      omega
theorem sat_val (c : Nat → Int) (a : Nat) (k : Nat) (hk : k ≤ 10) (hd : ∀ j, j < k → 48 ≤ c (a + j) ∧ c (a + j) ≤ 57) : sat c a k = val c a k := by
  induction k with
  | zero => rfl
  | succ n ih =>
    have h1 := ih (by omega) (fun j hj => hd j (by omega))
    have h2 := val_bd c a n (fun j hj => hd j (by omega))
    have h3 := ten_mono n 9 (by omega)
    rw [ten9] at h3
    rw [sat_succ, h1, if_pos (by omega), val_succ]
theorem sat_stop (c : Nat → Int) (a : Nat) (m : Nat) (h : 1073741822 < sat c a m) : ∀ k, sat c a (m + k) = sat c a m := by
  intro k
  induction k with
  | zero => rfl
  | succ n ih => rw [← Nat.add_assoc, sat_succ, ih, if_neg (by omega)]
/-- z zeros, then m digits, the first of them no zero. -/
theorem sat_closed (c : Nat → Int) (a z m : Nat) (hz : ∀ j, j < z → c (a + j) = 48) (hd : ∀ j, j < m → 48 ≤ c (a + z + j) ∧ c (a + z + j) ≤ 57) (h0 : 0 < m → c (a + z) ≠ 48) :
    (m ≤ 10 → sat c a (z + m) = val c (a + z) m) ∧
    (11 ≤ m → 1073741822 < val c (a + z) 10 → sat c a (z + m) = val c (a + z) 10) ∧
    (11 ≤ m → ¬ 1073741822 < val c (a + z) 10 → sat c a (z + m) = val c (a + z) 11) := by
  have hs := sat_shift c a z (sat_zero c a z hz)
  refine ⟨fun h => ?_, fun h1 h2 => ?_, fun h1 h2 => ?_⟩
  · rw [hs, sat_val c (a + z) m h hd]
  · have e := sat_val c (a + z) 10 (by omega) (fun j hj => hd j (by omega))
    have := sat_stop c (a + z) 10 (by rw [e]; exact h2) (m - 10)
    rw [hs, show m = 10 + (m - 10) by omega, this, e]
  · have e := sat_val c (a + z) 10 (by omega) (fun j hj => hd j (by omega))
    have e11 : sat c (a + z) 11 = val c (a + z) 11 := by
      show sat c (a + z) (10 + 1) = _
      rw [sat_succ, e, if_pos (by omega)]
      rfl
    have hl : ten 10 ≤ val c (a + z) 11 := val_lead c (a + z) 10 (fun j hj => hd j (by omega)) (h0 (by omega))
    rw [ten10] at hl
    have := sat_stop c (a + z) 11 (by rw [e11]; omega) (m - 11)
    rw [hs, show m = 11 + (m - 11) by omega, this, e11]
end Go.Proofs.Qxb6602665a
