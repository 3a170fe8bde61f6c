import Derived.Laws.FloatArith
namespace Go.Proofs.Qxb6614585a.Fl

/-- N / d to the nearest whole number, ties to the even one. -/
def rne (N d : Nat) : Nat := N / d + if d < 2 * (N % d) ∨ (d = 2 * (N % d) ∧ N / d % 2 = 1) then 1 else 0

theorem rne_scale (N d x : Nat) (hx : 0 < x) : rne (N * x) (d * x) = rne N d := by
  unfold rne
  rw [Nat.mul_div_mul_right _ _ hx, Nat.mul_mod_mul_right]
  have e1 : (d * x < 2 * (N % d * x)) ↔ d < 2 * (N % d) := by
    rw [← Nat.mul_assoc]; exact Nat.mul_lt_mul_right hx
  have e2 : (d * x = 2 * (N % d * x)) ↔ d = 2 * (N % d) := by
    rw [← Nat.mul_assoc]; exact Nat.mul_left_inj (by omega)
  simp only [e1, e2]

theorem rne_one (N : Nat) : rne N 1 = N := by unfold rne; simp [Nat.mod_one]

theorem rne_le {N d c : Nat} (hd : 0 < d) (h : N ≤ c * d) : rne N d ≤ c := by
  unfold rne
  have hq : N / d ≤ c := Nat.div_le_of_le_mul (by rwa [Nat.mul_comm])
  by_cases e : N / d = c
  · have hm := Nat.div_add_mod N d
    rw [e, Nat.mul_comm d c] at hm
    rw [if_neg (by omega)]; omega
  · split <;> omega

theorem le_rne {N d c : Nat} (hd : 0 < d) (h : c * d ≤ N) : c ≤ rne N d := by
  unfold rne
  have : c ≤ N / d := (Nat.le_div_iff_mul_le hd).2 h
  omega

theorem rne_mono {N N' d : Nat} (h : N ≤ N') : rne N d ≤ rne N' d := by
  unfold rne
  have hq : N / d ≤ N' / d := Nat.div_le_div_right h
  by_cases e : N / d = N' / d
  · have h1 := Nat.div_add_mod N d
    have h2 := Nat.div_add_mod N' d
    rw [e] at h1 ⊢
    have hr : N % d ≤ N' % d := by omega
    split
    · rename_i hc
      rw [if_pos (by omega)]
      exact Nat.le_refl _
    · omega
  · split <;> omega

theorem rne_err {N d : Nat} (hd : 0 < d) : 2 * (rne N d * d) ≤ 2 * N + d ∧ 2 * N ≤ 2 * (rne N d * d) + d := by
  unfold rne
  have h1 := Nat.div_add_mod N d
  have hr := Nat.mod_lt N hd
  rw [Nat.mul_comm] at h1
  split
  · rename_i hc
    rw [Nat.add_mul, Nat.one_mul]
    constructor <;> omega
  · rename_i hc
    rw [Nat.add_zero]
    constructor <;> omega

/-- The digit that tells of a rest: rounding past it sees the whole quotient. -/
theorem rne_sticky (D n b : Nat) (hn : 0 < n) (hb : 1 ≤ b) : rne (2 * (D / n) + (D % n != 0).toNat) (2 ^ (b + 1)) = rne D (n * 2 ^ b) := by
  obtain ⟨M', hM⟩ : ∃ M', 2 ^ b = 2 * M' := ⟨2 ^ (b - 1), by rw [← Nat.pow_succ']; congr 1; omega⟩
  have hMp : 0 < 2 ^ b := Nat.two_pow_pos b
  generalize hMd : 2 ^ b = M at *
  have hM2 : 2 ^ (b + 1) = 2 * M := by rw [Nat.pow_succ, hMd]; omega
  rw [hM2]
  have hD := Nat.div_add_mod D n
  have hr := Nat.mod_lt D hn
  have hq := Nat.div_add_mod (D / n) M
  have ht := Nat.mod_lt (D / n) hMp
  generalize hs : (D % n != 0).toNat = s
  have hs1 : s ≤ 1 := by subst hs; cases (D % n != 0) <;> simp
  have hs0 : D % n = 0 → s = 0 := by intro h; subst hs; simp [h]
  have hs1' : 0 < D % n → s = 1 := by intro h; subst hs; have : (D % n != 0) = true := by simp; omega
                                      simp [this]
  have eQ : D / (n * M) = D / n / M := (Nat.div_div_eq_div_mul D n M).symm
  have eR : D % (n * M) = (D / n % M) * n + D % n := by
    have h := Nat.div_add_mod D (n * M)
    rw [eQ] at h
    have h2 : n * M * (D / n / M) + ((D / n % M) * n + D % n) = D := by
      have : n * M * (D / n / M) = n * (M * (D / n / M)) := Nat.mul_assoc _ _ _
      rw [this, Nat.mul_comm (D / n % M) n, ← Nat.add_assoc, ← Nat.mul_add, hq]
      exact hD
    omega
  have eQ2 : (2 * (D / n) + s) / (2 * M) = D / n / M := by
    rw [← Nat.div_div_eq_div_mul]
    congr 1
    omega
  have eR2 : (2 * (D / n) + s) % (2 * M) = 2 * (D / n % M) + s := by
    have h := Nat.div_add_mod (2 * (D / n) + s) (2 * M)
    rw [eQ2] at h
    have : 2 * M * (D / n / M) = 2 * (M * (D / n / M)) := Nat.mul_assoc _ _ _
    omega
  unfold rne
  rw [eQ, eR, eQ2, eR2]
  generalize D / n / M % 2 = par
  generalize D / n % M = t at *
  generalize D % n = r at *
  clear hD hq eQ eR eQ2 eR2 hs hMd hM2
  have key1 : (2 * M < 2 * (2 * t + s)) ↔ (n * M < 2 * (t * n + r)) := by
    constructor
    · intro h
      have h2 : M ≤ 2 * t ∨ (M < 2 * t + 1 ∧ s = 1) := by omega
      by_cases hr0 : r = 0
      · have := hs0 hr0
        have h3 : M + 1 ≤ 2 * t := by omega
        have h4 := Nat.mul_le_mul_left n h3
        rw [Nat.mul_add, Nat.mul_one] at h4
        have h5 : n * (2 * t) = 2 * (t * n) := by rw [Nat.mul_left_comm, Nat.mul_comm n t]
        omega
      · have := hs1' (by omega)
        have h3 : M ≤ 2 * t := by omega
        have h4 := Nat.mul_le_mul_left n h3
        have h5 : n * (2 * t) = 2 * (t * n) := by rw [Nat.mul_left_comm, Nat.mul_comm n t]
        omega
    · intro h
      rcases Nat.lt_or_ge (2 * M) (2 * (2 * t + s)) with h1 | h1
      · exact h1
      exfalso
      by_cases hr0 : r = 0
      · have := hs0 hr0
        have h3 : 2 * t ≤ M := by omega
        have h4 := Nat.mul_le_mul_left n h3
        have h5 : n * (2 * t) = 2 * (t * n) := by rw [Nat.mul_left_comm, Nat.mul_comm n t]
        omega
      · have := hs1' (by omega)
        have h3 : 2 * t + 2 ≤ M := by omega
        have h4 := Nat.mul_le_mul_left n h3
        rw [Nat.mul_add] at h4
        have h5 : n * (2 * t) = 2 * (t * n) := by rw [Nat.mul_left_comm, Nat.mul_comm n t]
        omega
  have key2 : (2 * M = 2 * (2 * t + s)) ↔ (n * M = 2 * (t * n + r)) := by
    have h5 : n * (2 * t) = 2 * (t * n) := by rw [Nat.mul_left_comm, Nat.mul_comm n t]
    constructor
    · intro h
      have h2 : s = 0 ∧ M = 2 * t := by omega
      have hr0 : r = 0 := by
        rcases Nat.eq_zero_or_pos r with h | h
        · exact h
        · have := hs1' h; omega
      rw [h2.2, h5, hr0]
      omega
    · intro h
      by_cases hr0 : r = 0
      · have := hs0 hr0
        have h6 : n * M = n * (2 * t) := by omega
        have := Nat.eq_of_mul_eq_mul_left hn h6
        omega
      · exfalso
        rcases Nat.lt_or_ge (2 * t) M with h1 | h1
        · have h3 : 2 * t + 2 ≤ M := by omega
          have h4 := Nat.mul_le_mul_left n h3
          rw [Nat.mul_add] at h4
          omega
        · have h4 := Nat.mul_le_mul_left n h1
          omega
  simp only [key1, key2]

end Go.Proofs.Qxb6614585a.Fl
