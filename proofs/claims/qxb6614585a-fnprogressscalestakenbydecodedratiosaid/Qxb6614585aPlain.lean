import Derived.Test.Qxb6614585aRatio
namespace Go.Proofs.Qxb6614585a.Fl
open Ieee

theorem log_mono {a b : Nat} (ha : 0 < a) (h : a ≤ b) : a.log2 ≤ b.log2 := by
  rw [Nat.le_log2 (by omega)]
  exact Nat.le_trans (log_le ha) h

/-- A greater product is not rounded to a smaller one. -/
theorem Y_mono {P Q : Nat} (hP : 0 < P) (h : P ≤ Q) : K P * 2 ^ (P.log2 + 8) ≤ K Q * 2 ^ (Q.log2 + 8) := by
  have hlog := log_mono hP h
  by_cases e : P.log2 = Q.log2
  · rw [K_eq P 100 (48 + P.log2) (by omega), K_eq Q 100 (48 + Q.log2) (by omega), e]
    exact Nat.mul_le_mul_right _ (rne_mono (Nat.mul_le_mul_right _ h))
  · have h1 := (K_bounds hP).2
    have h2 := (K_bounds (Nat.lt_of_lt_of_le hP h)).1
    refine Nat.le_trans (Nat.mul_le_mul_right _ h1) (Nat.le_trans ?_ (Nat.mul_le_mul_right _ h2))
    rw [← Nat.pow_add, ← Nat.pow_add]
    exact Nat.pow_le_pow_right (by omega) (by omega)

theorem ratio_mono {P Q o T U : Nat} (hP : 0 < P) (h : P ≤ Q) (ho : 0 < o) (r : Ratio P o T) (r' : Ratio Q o U) : T ≤ U := by
  obtain ⟨g, Y, hg, hY, h1, h2, rfl⟩ := r
  obtain ⟨g', Y', hg', hY', h1', h2', rfl⟩ := r'
  have hYY : Y ≤ Y' := by rw [hY, hY']; exact Y_mono hP h
  clear hY hY'
  have hOp : 0 < o * 2 ^ 60 := Nat.mul_pos ho (Nat.two_pow_pos _)
  generalize o * 2 ^ 60 = O at *
  rcases Nat.lt_trichotomy g g' with hlt | rfl | hgt
  · exfalso
    have a1 : Y * 2 ^ (g + 1) ≤ Y' * 2 ^ g' := Nat.mul_le_mul hYY (Nat.pow_le_pow_right (by omega) (by omega))
    rw [Nat.pow_succ, ← Nat.mul_assoc] at a1
    omega
  · exact Nat.div_le_div_right (rne_mono (Nat.mul_le_mul_right _ hYY))
  · have a1 : rne (Y * 2 ^ g) O ≤ 2 ^ 53 := rne_le hOp (Nat.le_of_lt h2)
    have a2 : 2 ^ 52 ≤ rne (Y' * 2 ^ g') O := le_rne hOp h1'
    refine Nat.le_trans (Nat.div_le_div_right a1) (Nat.le_trans ?_ (Nat.div_le_div_right a2))
    obtain ⟨d, rfl⟩ : ∃ d, g = d + 1 := ⟨g - 1, by omega⟩
    have e2 : (2 : Nat) ^ (d + 1) = 2 ^ d * 2 := Nat.pow_succ 2 d
    rw [show (2 : Nat) ^ 53 = 2 ^ 52 * 2 from rfl, e2, Nat.mul_div_mul_right _ _ (by omega)]
    exact Nat.div_le_div_left (Nat.pow_le_pow_right (by omega) (by omega)) (Nat.two_pow_pos _)

theorem ratio_le {P o T : Nat} (hP : 0 < P) (ho : 0 < o) (ho' : o ≤ 2 ^ 50) (h : P ≤ o * 2 ^ 50) (r : Ratio P o T) : T ≤ 2 ^ 50 := by
  have hY := (Y_le P o hP h ho').2
  obtain ⟨g, Y, hg, e, h1, h2, rfl⟩ := r
  rw [← e] at hY
  refine Nat.div_le_of_le_mul ?_
  refine rne_le (Nat.mul_pos ho (Nat.two_pow_pos _)) ?_
  refine Nat.le_trans (Nat.mul_le_mul_right _ hY) ?_
  rw [show (2 : Nat) ^ 110 = 2 ^ 50 * 2 ^ 60 from rfl]
  refine Nat.le_of_eq ?_
  simp only [Nat.mul_assoc, Nat.mul_left_comm, Nat.mul_comm]

theorem ratio_exact {P o T : Nat} (hP : 0 < P) (ho : 0 < o) (h : P < 2 ^ 53) (r : Ratio P o T) : T = P / o := by
  obtain ⟨g, Y, hg, e, h1, h2, rfl⟩ := r
  have hl : P.log2 ≤ 52 := by
    have := (Nat.log2_lt (n := P) (k := 53) (by omega)).2 h
    omega
  have hY : Y = P * 2 ^ 60 := by
    rw [e]
    unfold K
    rw [show P.log2 - 52 = 0 by omega, Nat.pow_zero, rne_one, Nat.mul_assoc, ← Nat.pow_add]
    congr 2
    omega
  subst hY
  clear e h2
  have e1 : P * 2 ^ 60 * 2 ^ g = P * 2 ^ g * 2 ^ 60 := by rw [Nat.mul_assoc, Nat.mul_assoc, Nat.mul_comm (2 ^ 60)]
  rw [e1, ← Nat.mul_assoc] at h1
  have h1' : 2 ^ 52 * o ≤ P * 2 ^ g := Nat.le_of_mul_le_mul_right h1 (Nat.two_pow_pos 60)
  rw [e1, rne_scale _ _ _ (Nat.two_pow_pos 60)]
  have hgp := Nat.two_pow_pos g
  generalize 2 ^ g = G at *
  have hoG : o < 2 * G := by
    have : P * G < 2 ^ 53 * G := Nat.mul_lt_mul_of_pos_right h hgp
    omega
  have hk := Nat.div_add_mod P o
  have hr := Nat.mod_lt P ho
  generalize P / o = k at *
  refine Nat.le_antisymm ?_ ?_
  · refine Nat.le_of_lt_succ ((Nat.div_lt_iff_lt_mul hgp).2 ?_)
    have he := (rne_err (N := P * G) ho).1
    have h3 : P + 1 ≤ (k + 1) * o := by rw [Nat.add_mul, Nat.one_mul, Nat.mul_comm]; omega
    have h4 := Nat.mul_le_mul_right G h3
    rw [Nat.add_mul, Nat.one_mul] at h4
    have h5 : rne (P * G) o * o < (k + 1) * o * G := by omega
    have h6 : (k + 1) * o * G = (k + 1) * G * o := by rw [Nat.mul_assoc, Nat.mul_assoc, Nat.mul_comm o G]
    rw [h6] at h5
    exact Nat.lt_of_mul_lt_mul_right h5
  · refine (Nat.le_div_iff_mul_le hgp).2 (le_rne ho ?_)
    have : k * o ≤ P := by rw [Nat.mul_comm]; omega
    have := Nat.mul_le_mul_right G this
    rwa [Nat.mul_assoc, Nat.mul_comm G o, ← Nat.mul_assoc]

theorem ratio_near {P o T : Nat} (hP : 0 < P) (ho : 0 < o) (ho' : o ≤ 2 ^ 50) (h : P ≤ o * 2 ^ 50) (r : Ratio P o T) : T * o ≤ P + o ∧ P < (T + 2) * o := by
  have hl := (Y_le P o hP h ho').1
  obtain ⟨g, Y, hg, e, h1, h2, hT⟩ := r
  -- the rounded product
  have hY : Y ≤ P * 2 ^ 60 + P * 2 ^ 7 ∧ P * 2 ^ 60 ≤ Y + P * 2 ^ 7 := by
    have hk := K_eq P 100 (48 + P.log2) (by omega)
    obtain ⟨a, b⟩ := rne_err (N := P * 2 ^ 100) (d := 2 ^ (48 + P.log2)) (Nat.two_pow_pos _)
    rw [← hk] at a b
    have e2 : 2 * (K P * 2 ^ (48 + P.log2)) = Y * 2 ^ 41 := by
      rw [e, Nat.mul_assoc, ← Nat.pow_add, show P.log2 + 8 + 41 = (48 + P.log2) + 1 by omega, Nat.pow_succ, Nat.mul_comm 2, Nat.mul_assoc]
    rw [e2] at a b
    have e3 : 2 ^ (48 + P.log2) ≤ P * 2 ^ 7 * 2 ^ 41 := by
      rw [Nat.mul_assoc, ← Nat.pow_add, Nat.pow_add 2 48, Nat.mul_comm]
      exact Nat.mul_le_mul_right _ (log_le hP)
    have e4 : 2 * (P * 2 ^ 100) = P * 2 ^ 60 * 2 ^ 41 := by
      rw [Nat.mul_assoc, ← Nat.pow_add, Nat.mul_left_comm, ← Nat.pow_succ']
    rw [e4] at a b
    constructor
    · refine Nat.le_of_mul_le_mul_right (c := 2 ^ 41) ?_ (Nat.two_pow_pos 41)
      rw [Nat.add_mul]
      exact Nat.le_trans a (Nat.add_le_add_left e3 _)
    · refine Nat.le_of_mul_le_mul_right (c := 2 ^ 41) ?_ (Nat.two_pow_pos 41)
      rw [Nat.add_mul]
      exact Nat.le_trans b (Nat.add_le_add_left e3 _)
  have hOp : 0 < o * 2 ^ 60 := Nat.mul_pos ho (Nat.two_pow_pos _)
  obtain ⟨a, b⟩ := rne_err (N := Y * 2 ^ g) (d := o * 2 ^ 60) hOp
  generalize rne (Y * 2 ^ g) (o * 2 ^ 60) = q at *
  have hgp := Nat.two_pow_pos g
  have hg4 : 4 ≤ 2 ^ g := by
    have := Nat.pow_le_pow_right (n := 2) (by omega) hg
    omega
  have hT1 : T * 2 ^ g ≤ q := by rw [hT]; exact Nat.div_mul_le_self _ _
  have hT2 : q + 1 ≤ (T + 1) * 2 ^ g := by
    have := Nat.lt_succ_self (q / 2 ^ g)
    rw [← hT] at this
    have := (Nat.div_lt_iff_lt_mul hgp).1 (by rw [← hT]; exact this : q / 2 ^ g < T + 1)
    omega
  clear hT h1 h2 e hl
  generalize 2 ^ g = G at *
  constructor
  · -- from above
    have u1 : 2 * (T * G * (o * 2 ^ 60)) ≤ 2 * (Y * G) + o * 2 ^ 60 := Nat.le_trans (Nat.mul_le_mul_left 2 (Nat.mul_le_mul_right _ hT1)) a
    have u2 : o * 2 ^ 60 ≤ o * 2 ^ 58 * G := by
      have := Nat.mul_le_mul_left (o * 2 ^ 58) hg4
      omega
    have u3 : (2 * (T * o * 2 ^ 60)) * G ≤ (2 * Y + o * 2 ^ 58) * G := by
      have e1 : (2 * (T * o * 2 ^ 60)) * G = 2 * (T * G * (o * 2 ^ 60)) := by simp only [Nat.mul_assoc, Nat.mul_left_comm, Nat.mul_comm]
      rw [e1, Nat.add_mul, Nat.mul_assoc 2 Y G]
      omega
    have u4 := Nat.le_of_mul_le_mul_right u3 hgp
    generalize T * o = X at *
    omega
  · have v1 : 2 * q + 1 ≤ 2 * ((T + 1) * G) := by omega
    have v2 : (2 * q + 1) * (o * 2 ^ 60) ≤ 2 * ((T + 1) * G) * (o * 2 ^ 60) := Nat.mul_le_mul_right _ v1
    have v3 : 2 * (Y * G) ≤ 2 * ((T + 1) * G) * (o * 2 ^ 60) := by
      rw [Nat.add_mul, Nat.one_mul, Nat.mul_assoc] at v2
      omega
    have v4 : Y * G ≤ ((T + 1) * o * 2 ^ 60) * G := by
      have e1 : 2 * ((T + 1) * G) * (o * 2 ^ 60) = 2 * (((T + 1) * o * 2 ^ 60) * G) := by simp only [Nat.mul_assoc, Nat.mul_left_comm, Nat.mul_comm]
      omega
    have v5 := Nat.le_of_mul_le_mul_right v4 hgp
    have e2 : (T + 2) * o = (T + 1) * o + o := by rw [← Nat.succ_mul]
    rw [e2]
    generalize (T + 1) * o = X at *
    omega

/-- The same where the product may be nought. -/
def RatioZ (P o T : Nat) : Prop := (P = 0 ∧ T = 0) ∨ (0 < P ∧ Ratio P o T)

theorem div_near_zero (o : Nat) (ho : 0 < o) (ho' : o ≤ 2 ^ 50) : double.div (near 0) (near o) = some (near 0) := by
  obtain ⟨ro, c1, _⟩ := read_near o ho ho'
  unfold Format.div
  rw [near_zero, ro]
  unfold Datum.quotient
  dsimp only
  rw [if_neg (by omega), Nat.shiftLeft_eq, Nat.zero_mul, Nat.zero_div, Nat.zero_mod]
  show some (double.nearest false 0 _) = some (double.nearest false 0 0)
  rw [nearest_zero]

theorem toInt_near_zero : (double.read (near 0)).toInt .zero = some (((0 : Nat) : Nat) : Int) := by
  rw [near_zero]
  decide +kernel

theorem ratio_all (a b o : Nat) (ha : a ≤ 2 ^ 50) (hb : b ≤ 2 ^ 50) (ho : 0 < o) (ho' : o ≤ 2 ^ 50) (h : a * b ≤ o * 2 ^ 50) :
    ∃ wd T, double.mul (near a) (near b) = some (near (a * b)) ∧ double.div (near (a * b)) (near o) = some wd ∧ (double.read wd).toInt .zero = some ((T : Nat) : Int) ∧ RatioZ (a * b) o T := by
  rcases Nat.eq_zero_or_pos (a * b) with e | hP
  · have h0 : a = 0 ∨ b = 0 := Nat.mul_eq_zero.1 e
    rw [e]
    exact ⟨near 0, 0, mul_near_zero a b h0 ha hb, div_near_zero o ho ho', toInt_near_zero, .inl ⟨rfl, rfl⟩⟩
  · have h1 := Nat.pos_of_mul_pos_right hP
    have h2 := Nat.pos_of_mul_pos_left hP
    obtain ⟨wd, T, e1, e2, e3⟩ := div_near (a * b) o hP ho ho' h
    exact ⟨wd, T, mul_near a b (by omega) (by omega) ha hb, e1, e2, .inr ⟨hP, e3⟩⟩

theorem ratioZ_mono {P Q o T U : Nat} (h : P ≤ Q) (ho : 0 < o) (r : RatioZ P o T) (r' : RatioZ Q o U) : T ≤ U := by
  rcases r with ⟨_, rfl⟩ | ⟨hP, r⟩
  · exact Nat.zero_le _
  · rcases r' with ⟨hQ, _⟩ | ⟨_, r'⟩
    · omega
    · exact ratio_mono hP h ho r r'

theorem ratioZ_le {P o T : Nat} (ho : 0 < o) (ho' : o ≤ 2 ^ 50) (h : P ≤ o * 2 ^ 50) (r : RatioZ P o T) : T ≤ 2 ^ 50 := by
  rcases r with ⟨_, rfl⟩ | ⟨hP, r⟩
  · exact Nat.zero_le _
  · exact ratio_le hP ho ho' h r

theorem ratioZ_exact {P o T : Nat} (ho : 0 < o) (h : P < 2 ^ 53) (r : RatioZ P o T) : T = P / o := by
  rcases r with ⟨rfl, rfl⟩ | ⟨hP, r⟩
  · rw [Nat.zero_div]
  · exact ratio_exact hP ho h r

theorem ratioZ_near {P o T : Nat} (ho : 0 < o) (ho' : o ≤ 2 ^ 50) (h : P ≤ o * 2 ^ 50) (r : RatioZ P o T) : T * o ≤ P + o ∧ P < (T + 2) * o := by
  rcases r with ⟨rfl, rfl⟩ | ⟨hP, r⟩
  · constructor <;> omega
  · exact ratio_near hP ho ho' h r

/-- In the model's own words. -/
theorem float_all (a b o : Nat) (ha : a ≤ 2 ^ 50) (hb : b ≤ 2 ^ 50) (ho : 0 < o) (ho' : o ≤ 2 ^ 50) (h : a * b ≤ o * 2 ^ 50) :
    ∃ wp wd T, floatBits .mul .f64 (floatOfInt .f64 (a : Int)) (floatOfInt .f64 (b : Int)) = some wp ∧ floatBits .quo .f64 wp (floatOfInt .f64 (o : Int)) = some wd ∧ floatToIntVal .f64 wd .i64 = some ((T : Nat) : Int) ∧ RatioZ (a * b) o T := by
  obtain ⟨wd, T, h1, h2, h3, h4⟩ := ratio_all a b o ha hb ho ho' h
  have hT := ratioZ_le ho ho' h h4
  refine ⟨near (a * b), wd, T, ?_, ?_, ?_, h4⟩
  · rw [near_int, near_int]; exact h1
  · rw [near_int]; exact h2
  · unfold floatToIntVal
    have : (FloatKind.f64.decode wd).toInt .zero = some ((T : Nat) : Int) := h3
    rw [this]
    dsimp only
    rw [if_pos]
    have e1 : IntKind.i64.min = -9223372036854775808 := by decide
    have e2 : IntKind.i64.max = 9223372036854775807 := by decide
    rw [e1, e2]
    omega

end Go.Proofs.Qxb6614585a.Fl
