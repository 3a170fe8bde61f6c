import Derived.Test.Qxb6614585aNear
namespace Go.Proofs.Qxb6614585a.Fl
open Ieee

theorem K_shift (m c : Nat) (hm : 0 < m) : K (m * 2 ^ c) = K m := by
  rw [K_eq (m * 2 ^ c) 52 (m.log2 + c) (by rw [log2_shift _ _ hm]; omega), K_eq m (52 + c) (m.log2 + c) (by omega)]
  rw [Nat.mul_assoc, ← Nat.pow_add, Nat.add_comm c 52]

/-- The word of a natural number. -/
def near (n : Nat) : Nat := double.nearest false n 0

theorem near_int (n : Nat) : floatOfInt .f64 (n : Int) = near n := by
  show double.write (.number (decide ((n : Int) < 0)) (n : Int).natAbs 0) = _
  have : decide ((n : Int) < 0) = false := by simp
  rw [this, Int.natAbs_natCast]
  rfl

theorem log_bd {n c : Nat} (hn : 0 < n) (h : n ≤ 2 ^ c) : n.log2 ≤ c := by
  have h1 := log_le hn
  have h2 := Nat.le_trans h1 h
  exact (Nat.pow_le_pow_iff_right (by omega)).1 h2

theorem read_near (n : Nat) (hn : 0 < n) (h : n ≤ 2 ^ 50) : double.read (near n) = .number false (n * 2 ^ (52 - n.log2)) (-((52 - n.log2 : Nat) : Int)) ∧ 2 ^ 52 ≤ n * 2 ^ (52 - n.log2) ∧ n * 2 ^ (52 - n.log2) < 2 ^ 53 := by
  have hl := log_bd hn h
  obtain ⟨m', j, h1, h2, h3, h4, h5⟩ := read_nearest n 0 hn (by omega) (by omega)
  have hK : K n = n * 2 ^ (52 - n.log2) := by
    unfold K
    rw [show n.log2 - 52 = 0 by omega, Nat.pow_zero, rne_one]
  have b1 : 2 ^ 52 ≤ n * 2 ^ (52 - n.log2) := by
    have := Nat.mul_le_mul_right (2 ^ (52 - n.log2)) (log_le hn)
    rwa [← Nat.pow_add, show n.log2 + (52 - n.log2) = 52 by omega] at this
  have b2 : n * 2 ^ (52 - n.log2) < 2 ^ 53 := by
    have := Nat.mul_lt_mul_of_pos_right (@lt_log n) (Nat.two_pow_pos (52 - n.log2))
    rwa [← Nat.pow_add, show n.log2 + 1 + (52 - n.log2) = 53 by omega] at this
  refine ⟨?_, b1, b2⟩
  rw [hK] at h2
  have hj : j = 0 := by
    rcases (show j = 0 ∨ j = 1 by omega) with e | e
    · exact e
    · rw [e] at h2; omega
  subst hj
  rw [Nat.pow_zero, Nat.mul_one] at h2
  show double.read (double.nearest false n 0) = _
  have e : (0 : Int) + (n.log2 : Int) - 52 + ((0 : Nat) : Int) = -((52 - n.log2 : Nat) : Int) := by omega
  rw [h1, h2, e]

theorem nearest_zero (p : Int) : double.nearest false 0 p = double.nearest false 0 0 := by
  unfold Format.nearest
  rw [if_pos rfl, if_pos rfl]

theorem near_zero : double.read (near 0) = .number false 0 (-1074) := by decide +kernel

/-- The product of two words of small naturals is the word of their product. -/
theorem mul_near (a b : Nat) (ha : 0 < a) (hb : 0 < b) (ha' : a ≤ 2 ^ 50) (hb' : b ≤ 2 ^ 50) : double.mul (near a) (near b) = some (near (a * b)) := by
  obtain ⟨ra, _, _⟩ := read_near a ha ha'
  obtain ⟨rb, _, _⟩ := read_near b hb hb'
  have la := log_bd ha ha'
  have lb := log_bd hb hb'
  have hP : 0 < a * b := Nat.mul_pos ha hb
  have lP : (a * b).log2 ≤ 100 := log_bd hP (by have := Nat.mul_le_mul ha' hb'; rwa [← Nat.pow_add] at this)
  unfold Format.mul
  rw [ra, rb]
  show some (double.nearest false _ _) = some (double.nearest false _ _)
  congr 1
  have em : a * 2 ^ (52 - a.log2) * (b * 2 ^ (52 - b.log2)) = a * b * 2 ^ ((52 - a.log2) + (52 - b.log2)) := by
    rw [Nat.pow_add]; simp only [Nat.mul_assoc, Nat.mul_left_comm]
  rw [em]
  have el := log2_shift (a * b) ((52 - a.log2) + (52 - b.log2)) hP
  have hpos : 0 < a * b * 2 ^ ((52 - a.log2) + (52 - b.log2)) := Nat.mul_pos hP (Nat.two_pow_pos _)
  rw [nearest_norm _ _ hpos (by rw [el]; omega) (by rw [el]; omega), nearest_norm _ _ hP (by omega) (by omega), K_shift _ _ hP, el]
  congr 2
  omega

theorem mul_near_zero (a b : Nat) (h : a = 0 ∨ b = 0) (ha' : a ≤ 2 ^ 50) (hb' : b ≤ 2 ^ 50) : double.mul (near a) (near b) = some (near 0) := by
  unfold Format.mul
  have key : ∀ (n : Nat), n ≤ 2 ^ 50 → ∃ m p, double.read (near n) = .number false m p := by
    intro n hn
    rcases Nat.eq_zero_or_pos n with rfl | h
    · exact ⟨_, _, near_zero⟩
    · exact ⟨_, _, (read_near n h hn).1⟩
  rcases h with rfl | rfl
  · obtain ⟨m, p, e⟩ := key b hb'
    rw [near_zero, e]
    show some (double.nearest false (0 * m) _) = some (double.nearest false 0 0)
    rw [Nat.zero_mul, nearest_zero]
  · obtain ⟨m, p, e⟩ := key a ha'
    rw [near_zero, e]
    show some (double.nearest false (m * 0) _) = some (double.nearest false 0 0)
    rw [Nat.mul_zero, nearest_zero]

theorem log_52 {m : Nat} (h1 : 2 ^ 52 ≤ m) (h2 : m < 2 ^ 53) : m.log2 = 52 := (Nat.log2_eq_iff (by omega)).2 ⟨h1, h2⟩

/-- Truncation of a number below one unit of its digits. -/
theorem toInt_zero (m e : Nat) : (Datum.number false m (-(e : Int))).toInt .zero = some ((m / 2 ^ e : Nat) : Int) := by
  unfold Datum.toInt Datum.integral Toward.cut
  dsimp only
  have e1 : (-(e : Int)).toNat = 0 := by omega
  have e2 : (-(-(e : Int))).toNat = e := by omega
  rw [e1, e2, Nat.shiftLeft_eq, Nat.pow_zero, Nat.mul_one, Nat.shiftLeft_eq, Nat.one_mul]
  have e3 : m / 2 ^ min e (m.log2 + 2) = m / 2 ^ e := by
    by_cases h : e ≤ m.log2 + 2
    · rw [Nat.min_eq_left h]
    · rw [Nat.min_eq_right (by omega)]
      have l1 := @lt_log m
      have l2 : 2 ^ (m.log2 + 1) ≤ 2 ^ (m.log2 + 2) := Nat.pow_le_pow_right (by omega) (by omega)
      have l3 : 2 ^ (m.log2 + 1) ≤ 2 ^ e := Nat.pow_le_pow_right (by omega) (by omega)
      rw [Nat.div_eq_of_lt (by omega), Nat.div_eq_of_lt (by omega)]
  rw [e3]
  show some (signed false (m / 2 ^ e + 0) 0) = _
  unfold signed
  simp

/-- THE WHOLE QUOTIENT, IN PLAIN NUMBERS. P: the product; o: the divisor; T: what is left when the rounded quotient is cut towards zero. Y is the rounded product times 2^60, g the places of the rounded quotient below the point. -/
def Ratio (P o T : Nat) : Prop :=
  ∃ g Y, 2 ≤ g ∧ Y = K P * 2 ^ (P.log2 + 8) ∧ 2 ^ 52 * (o * 2 ^ 60) ≤ Y * 2 ^ g ∧ Y * 2 ^ g < 2 ^ 53 * (o * 2 ^ 60) ∧ T = rne (Y * 2 ^ g) (o * 2 ^ 60) / 2 ^ g

/-- The rounded product stays within 2^50 times the divisor. -/
theorem Y_le (P o : Nat) (hP : 0 < P) (h : P ≤ o * 2 ^ 50) (ho : o ≤ 2 ^ 50) : P.log2 ≤ 100 ∧ K P * 2 ^ (P.log2 + 8) ≤ o * 2 ^ 110 := by
  have hl : P.log2 ≤ 100 := log_bd hP (by have := Nat.mul_le_mul_right (2 ^ 50) ho; rw [← Nat.pow_add] at this; omega)
  refine ⟨hl, ?_⟩
  have h1 : K P ≤ o * 2 ^ (102 - P.log2) := by
    rw [K_eq P 100 (48 + P.log2) (by omega)]
    refine rne_le (Nat.two_pow_pos _) ?_
    rw [Nat.mul_assoc, ← Nat.pow_add, show 102 - P.log2 + (48 + P.log2) = 50 + 100 by omega, Nat.pow_add, ← Nat.mul_assoc]
    exact Nat.mul_le_mul_right _ h
  refine Nat.le_trans (Nat.mul_le_mul_right _ h1) ?_
  rw [Nat.mul_assoc, ← Nat.pow_add, show 102 - P.log2 + (P.log2 + 8) = 110 by omega]
  exact Nat.le_refl _

theorem div_near (P o : Nat) (hP : 0 < P) (ho : 0 < o) (ho' : o ≤ 2 ^ 50) (h : P ≤ o * 2 ^ 50) :
    ∃ wd T, double.div (near P) (near o) = some wd ∧ (double.read wd).toInt .zero = some ((T : Nat) : Int) ∧ Ratio P o T := by
  obtain ⟨hl, hY⟩ := Y_le P o hP h ho'
  obtain ⟨m1, j, r1, k1, b1, b2, hj⟩ := read_nearest P 0 hP (by omega) (by omega)
  obtain ⟨ro, c1, c2⟩ := read_near o ho ho'
  have lo := log_bd ho ho'
  have lm := log_52 b1 b2
  have ln := log_52 c1 c2
  generalize hs : 52 - o.log2 = s at *
  generalize hn : o * 2 ^ s = n at *
  have hnp : 0 < n := by omega
  -- the quotient's digits
  have hD1 : 2 ^ 53 ≤ m1 * 2 ^ 54 / n := (Nat.le_div_iff_mul_le hnp).2 (by omega)
  have hD2 : m1 * 2 ^ 54 / n < 2 ^ 55 := (Nat.div_lt_iff_lt_mul hnp).2 (by omega)
  have hqp : 0 < m1 * 2 ^ 54 / n := by omega
  obtain ⟨b, hb, hb1, hb2⟩ : ∃ b, (m1 * 2 ^ 54 / n).log2 = 52 + b ∧ 1 ≤ b ∧ b ≤ 2 := by
    have a1 : 53 ≤ (m1 * 2 ^ 54 / n).log2 := (Nat.le_log2 (by omega)).2 hD1
    have a2 : (m1 * 2 ^ 54 / n).log2 < 55 := (Nat.log2_lt (by omega)).2 hD2
    exact ⟨(m1 * 2 ^ 54 / n).log2 - 52, by omega, by omega, by omega⟩
  have q1 : 2 ^ (52 + b) * n ≤ m1 * 2 ^ 54 := by
    have := log_le hqp
    rw [hb] at this
    exact (Nat.le_div_iff_mul_le hnp).1 this
  have q2 : m1 * 2 ^ 54 < 2 ^ (53 + b) * n := by
    have := @lt_log (m1 * 2 ^ 54 / n)
    rw [hb, show 52 + b + 1 = 53 + b by omega] at this
    exact (Nat.div_lt_iff_lt_mul hnp).1 this
  -- the places of the rounded quotient
  have hg : P.log2 + j + s + b ≤ 104 := by
    have h1 := Nat.mul_le_mul_right (2 ^ (j + (P.log2 + 8))) q1
    have h2 : m1 * 2 ^ 54 * 2 ^ (j + (P.log2 + 8)) = K P * 2 ^ (P.log2 + 8) * 2 ^ 54 := by
      rw [← k1, Nat.pow_add]; simp only [Nat.mul_assoc, Nat.mul_left_comm, Nat.mul_comm]
    have h3 : 2 ^ (52 + b) * n * 2 ^ (j + (P.log2 + 8)) = o * 2 ^ (60 + (P.log2 + j + s + b)) := by
      rw [← hn]
      have : 60 + (P.log2 + j + s + b) = s + (52 + b) + (j + (P.log2 + 8)) := by omega
      rw [this, Nat.pow_add 2 (s + (52 + b)), Nat.pow_add 2 s]; simp only [Nat.mul_assoc, Nat.mul_left_comm, Nat.mul_comm]
    have h4 : o * 2 ^ (60 + (P.log2 + j + s + b)) ≤ o * 2 ^ 164 := by
      rw [← h3]
      refine Nat.le_trans h1 ?_
      rw [h2]
      refine Nat.le_trans (Nat.mul_le_mul_right _ hY) ?_
      rw [Nat.mul_assoc, ← Nat.pow_add]
      exact Nat.le_refl _
    have h5 := Nat.le_of_mul_le_mul_left h4 ho
    have := (Nat.pow_le_pow_iff_right (by omega : 1 < 2)).1 h5
    omega
  obtain ⟨g, hgd⟩ : ∃ g, g + (P.log2 + j + s + b) = 106 := ⟨106 - (P.log2 + j + s + b), by omega⟩
  -- the digits written
  have hst : (m1 * 2 ^ 54 % n != 0).toNat ≤ 1 := by cases (m1 * 2 ^ 54 % n != 0) <;> simp
  generalize hmag : 2 * (m1 * 2 ^ 54 / n) + (m1 * 2 ^ 54 % n != 0).toNat = mag
  have hmp : 0 < mag := by omega
  have hml : mag.log2 = 53 + b := by
    rw [Nat.log2_eq_iff (by omega)]
    have a1 := log_le hqp
    have a2 := @lt_log (m1 * 2 ^ 54 / n)
    rw [hb] at a1 a2
    rw [show 53 + b = (52 + b) + 1 by omega, Nat.pow_succ, Nat.pow_succ, ← Nat.pow_succ]
    constructor
    · omega
    · omega
  have hKm : K mag = rne (m1 * 2 ^ 54) (n * 2 ^ b) := by
    rw [K_eq mag 0 (b + 1) (by omega), Nat.pow_zero, Nat.mul_one, ← hmag, rne_sticky _ _ _ hnp hb1]
  obtain ⟨m2, j2, r2, k2, d1, d2, hj2⟩ := read_nearest mag ((P.log2 : Int) + j + s - 107) hmp (by omega) (by omega)
  refine ⟨double.nearest false mag ((P.log2 : Int) + j + s - 107), K mag / 2 ^ g, ?_, ?_, ?_⟩
  · unfold Format.div near
    rw [r1]
    rw [near] at ro
    rw [ro]
    unfold Datum.quotient
    dsimp only
    rw [if_neg (by omega), lm, ln, Nat.shiftLeft_eq, fb]
    have em : 52 + 2 + 52 - 52 = 54 := rfl
    rw [em, hmag]
    show some (double.nearest false mag _) = _
    congr 2
    omega
  · rw [r2]
    have e : (P.log2 : Int) + j + s - 107 + (mag.log2 : Int) - 52 + j2 = -((g - j2 : Nat) : Int) := by omega
    rw [e, toInt_zero, ← k2]
    congr 2
    have : 2 ^ g = 2 ^ (g - j2) * 2 ^ j2 := by rw [← Nat.pow_add]; congr 1; omega
    rw [this, Nat.mul_div_mul_right _ _ (Nat.two_pow_pos j2)]
  · have hx : 0 < 2 ^ (60 - s - b) := Nat.two_pow_pos _
    have eN : m1 * 2 ^ 54 * 2 ^ (60 - s - b) = K P * 2 ^ (P.log2 + 8) * 2 ^ g := by
      rw [← k1, Nat.mul_assoc, Nat.mul_assoc, Nat.mul_assoc, ← Nat.pow_add, ← Nat.pow_add, ← Nat.pow_add]
      congr 2
      omega
    have eO : n * 2 ^ b * 2 ^ (60 - s - b) = o * 2 ^ 60 := by
      rw [← hn, Nat.mul_assoc, Nat.mul_assoc, ← Nat.pow_add, ← Nat.pow_add]
      congr 2
      omega
    refine ⟨g, _, by omega, rfl, ?_, ?_, ?_⟩
    · rw [← eN, ← eO]
      have := Nat.mul_le_mul_right (2 ^ (60 - s - b)) q1
      rw [Nat.pow_add] at this
      refine Nat.le_trans (Nat.le_of_eq ?_) this
      simp only [Nat.mul_assoc, Nat.mul_left_comm, Nat.mul_comm]
    · rw [← eN, ← eO]
      have := Nat.mul_lt_mul_of_pos_right q2 hx
      rw [Nat.pow_add] at this
      refine Nat.lt_of_lt_of_le this (Nat.le_of_eq ?_)
      simp only [Nat.mul_assoc, Nat.mul_left_comm, Nat.mul_comm]
    · rw [← eN, ← eO, rne_scale _ _ _ hx, hKm]

end Go.Proofs.Qxb6614585a.Fl
