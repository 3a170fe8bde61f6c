import Derived.Test.Qxb6614585aRound
namespace Go.Proofs.Qxb6614585a.Fl
open Ieee

/-- What 'nearest' keeps of a number of this magnitude: 53 digits. -/
def K (m : Nat) : Nat := rne (m * 2 ^ (52 - m.log2)) (2 ^ (m.log2 - 52))

theorem log_le {m : Nat} (h : 0 < m) : 2 ^ m.log2 ≤ m := Nat.log2_self_le (by omega)
theorem lt_log {m : Nat} : m < 2 ^ (m.log2 + 1) := Nat.lt_log2_self

theorem K_eq (m A B : Nat) (h : A + m.log2 = B + 52) : K m = rne (m * 2 ^ A) (2 ^ B) := by
  unfold K
  have hx : 0 < 2 ^ (A - (52 - m.log2)) := Nat.two_pow_pos _
  rw [← rne_scale _ _ _ hx, Nat.mul_assoc, ← Nat.pow_add, ← Nat.pow_add]
  congr 2
  · congr 1; omega
  · omega

theorem K_bounds {m : Nat} (hm : 0 < m) : 2 ^ 52 ≤ K m ∧ K m ≤ 2 ^ 53 := by
  have h1 := log_le hm
  have h2 := @lt_log m
  constructor
  · refine le_rne (Nat.two_pow_pos _) ?_
    refine Nat.le_trans ?_ (Nat.mul_le_mul_right _ h1)
    rw [← Nat.pow_add, ← Nat.pow_add]
    exact Nat.pow_le_pow_right (by omega) (by omega)
  · refine rne_le (Nat.two_pow_pos _) ?_
    refine Nat.le_trans (Nat.mul_le_mul_right _ (Nat.le_of_lt h2)) ?_
    rw [← Nat.pow_add, ← Nat.pow_add]
    exact Nat.pow_le_pow_right (by omega) (by omega)

theorem cut_even (neg : Bool) (n drop : Nat) (h : drop ≤ n.log2 + 2) : Toward.even.cut neg n drop = rne n (2 ^ drop) := by
  unfold Toward.cut rne
  dsimp only
  rw [Nat.min_eq_left h, Nat.shiftLeft_eq, Nat.one_mul]
  congr 1
  by_cases h1 : 2 ^ drop < 2 * (n % 2 ^ drop)
  · simp [h1]
  · by_cases h2 : 2 ^ drop = 2 * (n % 2 ^ drop)
    · by_cases h3 : n / 2 ^ drop % 2 = 1
      · simp [← h2, h3]
      · have : (n / 2 ^ drop % 2 == 1) = false := by simpa using h3
        simp [← h2, h3]
    · simp [h1, h2]

theorem lp : double.leastPlace = -1074 := by decide
theorem fb : double.fractionBits = 52 := rfl
theorem bn : double.binade = 2 ^ 52 := rfl
theorem sw : double.signWeight = 2 ^ 63 := rfl
theorem ir : double.infRung = 2047 * 2 ^ 52 := rfl

theorem log2_shift (m k : Nat) (h : 0 < m) : (m * 2 ^ k).log2 = m.log2 + k := by
  have h1 := log_le h
  have h2 := @lt_log m
  rw [Nat.log2_eq_iff (by have := Nat.mul_pos h (Nat.two_pow_pos k); omega)]
  constructor
  · rw [Nat.pow_add]; exact Nat.mul_le_mul_right _ h1
  · rw [show m.log2 + k + 1 = (m.log2 + 1) + k by omega, Nat.pow_add]; exact Nat.mul_lt_mul_of_pos_right h2 (Nat.two_pow_pos k)

/-- The word of a number well inside the format. -/
theorem nearest_norm (m : Nat) (p : Int) (hm : 0 < m) (lo : -1000 ≤ p + m.log2) (hi : p + m.log2 ≤ 1000) :
    double.nearest false m p = (p + m.log2 - 52 + 1074).toNat * 2 ^ 52 + K m := by
  have hK := K_bounds hm
  unfold Format.nearest
  rw [if_neg (by omega)]
  dsimp only
  rw [lp, fb, bn, ir]
  have el : max (p + (m.log2 : Int) - ((52 : Nat) : Int)) (-1074) = p + m.log2 - 52 := by omega
  rw [el]
  have ea : (p - (p + (m.log2 : Int) - 52)).toNat = 52 - m.log2 := by omega
  have eb : ((p + (m.log2 : Int) - 52) - p).toNat = m.log2 - 52 := by omega
  rw [ea, eb, Nat.shiftLeft_eq, cut_even]
  · show (if false = true then _ else _) = _
    rw [if_neg (by decide)]
    show min (_ + K m) _ = _
    rw [Nat.min_eq_left]
    · congr 2
    · have : (p + (m.log2 : Int) - 52 - -1074).toNat ≤ 2044 := by omega
      generalize (p + (m.log2 : Int) - 52 - -1074).toNat = L at *
      omega
  · rw [log2_shift _ _ hm]; omega

/-- That word read. -/
theorem read_norm (L k : Nat) (hL : L ≤ 2044) (h1 : 2 ^ 52 ≤ k) (h2 : k ≤ 2 ^ 53) :
    ∃ m j : Nat, double.read (L * 2 ^ 52 + k) = .number false m (L - 1074 + j) ∧ m * 2 ^ j = k ∧ 2 ^ 52 ≤ m ∧ m < 2 ^ 53 ∧ j ≤ 1 := by
  unfold Format.read
  rw [lp, bn, sw, ir]
  dsimp only
  have e1 : (L * 2 ^ 52 + k) / 2 ^ 63 = 0 := by omega
  have e2 : (L * 2 ^ 52 + k) % 2 ^ 63 = L * 2 ^ 52 + k := by omega
  rw [e1, e2, if_neg (by omega), if_pos (by omega)]
  by_cases h : k < 2 ^ 53
  · refine ⟨k, 0, ?_, by omega, h1, h, by omega⟩
    have e3 : (L * 2 ^ 52 + k) % 2 ^ 52 = k - 2 ^ 52 := by omega
    have e4 : (L * 2 ^ 52 + k) / 2 ^ 52 = L + 1 := by omega
    have e5 : 2 ^ 52 + (k - 2 ^ 52) = k := by omega
    have e6 : (-1074 : Int) + ((L + 1 - 1 : Nat) : Int) = (L : Int) - 1074 + ((0 : Nat) : Int) := by omega
    rw [e3, e4, e5, e6]
    rfl
  · refine ⟨2 ^ 52, 1, ?_, by omega, by omega, by omega, by omega⟩
    have e3 : (L * 2 ^ 52 + k) % 2 ^ 52 = 0 := by omega
    have e4 : (L * 2 ^ 52 + k) / 2 ^ 52 = L + 2 := by omega
    have e6 : (-1074 : Int) + ((L + 2 - 1 : Nat) : Int) = (L : Int) - 1074 + ((1 : Nat) : Int) := by omega
    rw [e3, e4, e6, Nat.add_zero]
    rfl

/-- Written and read: 53 digits of it. -/
theorem read_nearest (m : Nat) (p : Int) (hm : 0 < m) (lo : -1000 ≤ p + m.log2) (hi : p + m.log2 ≤ 1000) :
    ∃ m' j : Nat, double.read (double.nearest false m p) = .number false m' (p + m.log2 - 52 + j) ∧ m' * 2 ^ j = K m ∧ 2 ^ 52 ≤ m' ∧ m' < 2 ^ 53 ∧ j ≤ 1 := by
  have hK := K_bounds hm
  obtain ⟨m', j, h1, h2⟩ := read_norm (p + m.log2 - 52 + 1074).toNat (K m) (by omega) hK.1 hK.2
  rw [nearest_norm m p hm lo hi]
  refine ⟨m', j, ?_, h2⟩
  have e : (((p + (m.log2 : Int) - 52 + 1074).toNat : Nat) : Int) - 1074 + (j : Int) = p + m.log2 - 52 + j := by omega
  rw [h1, e]

end Go.Proofs.Qxb6614585a.Fl
