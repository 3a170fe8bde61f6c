import Derived.Test.Qxb6614585aWalks
namespace Go.Proofs.Qxb6614585a
open Go.RowKit

theorem ret_bool {a b : Bool} (h : a = b) : Ending.returned (.bool a) = .returned (.bool b) := by rw [h]

/-- The comparison of two pairs of words is the comparison of the numbers. -/
theorem less_words (X Y : Nat) : lessB (hiW X) (loW X) (hiW Y) (loW Y) = decide (X < Y) := by
  unfold lessB hiW loW
  by_cases h : X < Y
  · rw [decide_eq_true h]
    by_cases h1 : X / 2 ^ 64 < Y / 2 ^ 64
    · have : ((X / 2 ^ 64 : Nat) : Int) < ((Y / 2 ^ 64 : Nat) : Int) := by omega
      rw [decide_eq_true this]; rfl
    · have h2 : ((X / 2 ^ 64 : Nat) : Int) = ((Y / 2 ^ 64 : Nat) : Int) := by omega
      have h3 : ((X % 2 ^ 64 : Nat) : Int) < ((Y % 2 ^ 64 : Nat) : Int) := by omega
      rw [decide_eq_true h2, decide_eq_true h3]; simp
  · rw [decide_eq_false h]
    have h1 : ¬ ((X / 2 ^ 64 : Nat) : Int) < ((Y / 2 ^ 64 : Nat) : Int) := by omega
    rw [decide_eq_false h1]
    by_cases h2 : ((X / 2 ^ 64 : Nat) : Int) = ((Y / 2 ^ 64 : Nat) : Int)
    · have h3 : ¬ ((X % 2 ^ 64 : Nat) : Int) < ((Y % 2 ^ 64 : Nat) : Int) := by omega
      rw [decide_eq_false h3]; simp
    · rw [decide_eq_false h2]; rfl

/-- The bound as the Go text writes it: out * 2^50 in two words. -/
theorem less_bound (o X : Nat) : lessB ((o : Int) / 16384) (IntKind.u64.wrap ((o : Int) * 1125899906842624)) (hiW X) (loW X) = decide (o * 2 ^ 50 < X) := by
  have e1 : (o : Int) / 16384 = hiW (o * 2 ^ 50) := by unfold hiW; omega
  have e2 : IntKind.u64.wrap ((o : Int) * 1125899906842624) = loW (o * 2 ^ 50) := by unfold loW; rw [IntKind.wrap_u64]; omega
  rw [← less_words, e1, e2]

set_option maxHeartbeats 4000000 in
theorem mono_out (line t1 t2 size i o : Int) (w : World) (h : t1 < 0 ∨ 1125899906842624 < t1 ∨ t2 < 0 ∨ 1125899906842624 < t2 ∨ i < 0 ∨ 1125899906842624 < i ∨ o < 1 ∨ 1125899906842624 < o) :
    Calls Try.prog 4 #[.int .i64 line, .int .i64 t1, .int .i64 t2, .int .i64 size, .int .i64 i, .int .i64 o] w fun e w' => e = .returned (.bool true) ∧ Below w.heap.size w w' := by
  go_enter Try.func4, Try.ntmps4
  go_wp2_with fail
  all_goals
    go_ret
    exact ⟨rfl, Below.refl _ _⟩

set_option maxHeartbeats 4000000 in
theorem mono_up (line size : Int) (a c b o : Nat) (w : World) (hac : a ≤ c) (hc : c ≤ 1125899906842624) (hb : b ≤ 1125899906842624) (ho0 : 1 ≤ o) (ho : o ≤ 1125899906842624) :
    Calls Try.prog 4 #[.int .i64 line, .int .i64 a, .int .i64 c, .int .i64 size, .int .i64 b, .int .i64 o] w fun e w' => e = .returned (.bool true) ∧ Below w.heap.size w w' := by
  have ha1 : (0 : Int) ≤ (a : Int) := by omega
  have ha2 : (a : Int) ≤ 1125899906842624 := by omega
  have hc1 : (0 : Int) ≤ (c : Int) := by omega
  have hc2 : (c : Int) ≤ 1125899906842624 := by omega
  have hb1 : (0 : Int) ≤ (b : Int) := by omega
  have hb2 : (b : Int) ≤ 1125899906842624 := by omega
  have ho1 : (1 : Int) ≤ (o : Int) := by omega
  have ho2 : (o : Int) ≤ 1125899906842624 := by omega
  have hac' : (a : Int) ≤ (c : Int) := by omega
  go_enter Try.func4, Try.ntmps4
  go_wp2_with fail
  refine (mul_any c b (by omega) (by omega) _).mono ?_
  rintro e w0 ⟨rfl, hw⟩
  obtain rfl : w = w0 := hw.symm
  clear hw
  go_wp2_with fail
  refine (less_any _ _ _ _ _).mono ?_
  rintro e w0 ⟨rfl, hw⟩
  obtain rfl : w = w0 := hw.symm
  clear hw
  rw [less_bound]
  by_cases hX : o * 2 ^ 50 < c * b
  · rw [decide_eq_true hX]
    clear hX
    go_wp2_with fail
    go_ret
    exact ⟨rfl, Below.refl _ _⟩
  rw [decide_eq_false hX]
  have HX : Hid (c * b ≤ o * 2 ^ 50) := by show _ ≤ _; omega
  have HA : Hid (a * b ≤ c * b) := Nat.mul_le_mul_right b hac
  clear hX
  go_wp2_with fail
  refine (new_decoded line a size b 0 _).mono ?_
  rintro e w1 ⟨rfl, hR1, hD1, hB1⟩
  have R1 : Hid _ := hR1
  have D1 : Hid _ := hD1
  clear hR1 hD1
  go_wp2_with fail
  refine (zprogress_zero _ _ line a size b _ R1.out D1.out).mono ?_
  rintro e w2 ⟨rfl, hB2⟩
  clear R1 D1
  go_wp2_with fail
  refine (new_decoded line a size b o _).mono ?_
  rintro e w3 ⟨rfl, hR3, hD3, hB3⟩
  have R3 : Hid _ := hR3
  have D3 : Hid _ := hD3
  clear hR3 hD3
  go_wp2_with fail
  refine (zprogress_some _ _ line size a b o _ (by omega) (by omega) (by omega) (by omega) (Nat.le_trans HA.out HX.out) R3.out D3.out).mono ?_
  rintro e w4 ⟨⟨T, rfl, hT⟩, hB4⟩
  have HT : Hid _ := hT
  clear R3 D3 hT
  go_wp2_with fail
  refine (new_decoded line c size b o _).mono ?_
  rintro e w5 ⟨rfl, hR5, hD5, hB5⟩
  have R5 : Hid _ := hR5
  have D5 : Hid _ := hD5
  clear hR5 hD5
  go_wp2_with fail
  refine (zprogress_some _ _ line size c b o _ (by omega) (by omega) (by omega) (by omega) HX.out R5.out D5.out).mono ?_
  rintro e w6 ⟨⟨U, rfl, hU⟩, hB6⟩
  have hTU : (T : Int) ≤ (U : Int) := by have := Fl.ratioZ_mono HA.out (by omega) HT.out hU; omega
  clear R5 D5 hU
  have z1 := hB1.size
  have z2 := hB2.size
  have z3 := hB3.size
  have z4 := hB4.size
  have z5 := hB5.size
  have hB : Below w.heap.size w w6 := ((((hB1.trans (hB2.mono (by omega))).trans (hB3.mono (by omega))).trans (hB4.mono (by omega))).trans (hB5.mono (by omega))).trans (hB6.mono (by omega))
  clear hB1 hB2 hB3 hB4 hB5 hB6
  go_wp2_with fail
  go_ret
  exact ⟨ret_bool (by simp), hB⟩

set_option maxHeartbeats 4000000 in
theorem mono_down (line size : Int) (a c b o : Nat) (w : World) (hac : a < c) (hc : c ≤ 1125899906842624) (hb : b ≤ 1125899906842624) (ho0 : 1 ≤ o) (ho : o ≤ 1125899906842624) :
    Calls Try.prog 4 #[.int .i64 line, .int .i64 c, .int .i64 a, .int .i64 size, .int .i64 b, .int .i64 o] w fun e w' => e = .returned (.bool true) ∧ Below w.heap.size w w' := by
  have ha1 : (0 : Int) ≤ (a : Int) := by omega
  have ha2 : (a : Int) ≤ 1125899906842624 := by omega
  have hc1 : (0 : Int) ≤ (c : Int) := by omega
  have hc2 : (c : Int) ≤ 1125899906842624 := by omega
  have hb1 : (0 : Int) ≤ (b : Int) := by omega
  have hb2 : (b : Int) ≤ 1125899906842624 := by omega
  have ho1 : (1 : Int) ≤ (o : Int) := by omega
  have ho2 : (o : Int) ≤ 1125899906842624 := by omega
  have hac' : (a : Int) < (c : Int) := by omega
  go_enter Try.func4, Try.ntmps4
  go_wp2_with fail
  refine (mul_any c b (by omega) (by omega) _).mono ?_
  rintro e w0 ⟨rfl, hw⟩
  obtain rfl : w = w0 := hw.symm
  clear hw
  go_wp2_with fail
  refine (less_any _ _ _ _ _).mono ?_
  rintro e w0 ⟨rfl, hw⟩
  obtain rfl : w = w0 := hw.symm
  clear hw
  rw [less_bound]
  by_cases hX : o * 2 ^ 50 < c * b
  · rw [decide_eq_true hX]
    clear hX
    go_wp2_with fail
    go_ret
    exact ⟨rfl, Below.refl _ _⟩
  rw [decide_eq_false hX]
  have HX : Hid (c * b ≤ o * 2 ^ 50) := by show _ ≤ _; omega
  have HA : Hid (a * b ≤ c * b) := Nat.mul_le_mul_right b (Nat.le_of_lt hac)
  clear hX
  go_wp2_with fail
  refine (new_decoded line a size b 0 _).mono ?_
  rintro e w1 ⟨rfl, hR1, hD1, hB1⟩
  have R1 : Hid _ := hR1
  have D1 : Hid _ := hD1
  clear hR1 hD1
  go_wp2_with fail
  refine (zprogress_zero _ _ line a size b _ R1.out D1.out).mono ?_
  rintro e w2 ⟨rfl, hB2⟩
  clear R1 D1
  go_wp2_with fail
  refine (new_decoded line a size b o _).mono ?_
  rintro e w3 ⟨rfl, hR3, hD3, hB3⟩
  have R3 : Hid _ := hR3
  have D3 : Hid _ := hD3
  clear hR3 hD3
  go_wp2_with fail
  refine (zprogress_some _ _ line size a b o _ (by omega) (by omega) (by omega) (by omega) (Nat.le_trans HA.out HX.out) R3.out D3.out).mono ?_
  rintro e w4 ⟨⟨T, rfl, hT⟩, hB4⟩
  have HT : Hid _ := hT
  clear R3 D3 hT
  go_wp2_with fail
  refine (new_decoded line c size b o _).mono ?_
  rintro e w5 ⟨rfl, hR5, hD5, hB5⟩
  have R5 : Hid _ := hR5
  have D5 : Hid _ := hD5
  clear hR5 hD5
  go_wp2_with fail
  refine (zprogress_some _ _ line size c b o _ (by omega) (by omega) (by omega) (by omega) HX.out R5.out D5.out).mono ?_
  rintro e w6 ⟨⟨U, rfl, hU⟩, hB6⟩
  have hTU : (T : Int) ≤ (U : Int) := by have := Fl.ratioZ_mono HA.out (by omega) HT.out hU; omega
  clear R5 D5 hU
  have z1 := hB1.size
  have z2 := hB2.size
  have z3 := hB3.size
  have z4 := hB4.size
  have z5 := hB5.size
  have hB : Below w.heap.size w w6 := ((((hB1.trans (hB2.mono (by omega))).trans (hB3.mono (by omega))).trans (hB4.mono (by omega))).trans (hB5.mono (by omega))).trans (hB6.mono (by omega))
  clear hB1 hB2 hB3 hB4 hB5 hB6
  go_wp2_with fail
  go_ret
  exact ⟨ret_bool (by simp), hB⟩

/-- Whatever the six numbers. -/
theorem mono_any (line t1 t2 size i o : Int) (w : World) :
    Calls Try.prog 4 #[.int .i64 line, .int .i64 t1, .int .i64 t2, .int .i64 size, .int .i64 i, .int .i64 o] w fun e w' => e = .returned (.bool true) ∧ Below w.heap.size w w' := by
  by_cases h : t1 < 0 ∨ 1125899906842624 < t1 ∨ t2 < 0 ∨ 1125899906842624 < t2 ∨ i < 0 ∨ 1125899906842624 < i ∨ o < 1 ∨ 1125899906842624 < o
  · exact mono_out line t1 t2 size i o w h
  · obtain ⟨a, rfl⟩ := Int.eq_ofNat_of_zero_le (show 0 ≤ t1 by omega)
    obtain ⟨c, rfl⟩ := Int.eq_ofNat_of_zero_le (show 0 ≤ t2 by omega)
    obtain ⟨b, rfl⟩ := Int.eq_ofNat_of_zero_le (show 0 ≤ i by omega)
    obtain ⟨d, rfl⟩ := Int.eq_ofNat_of_zero_le (show 0 ≤ o by omega)
    by_cases hac : a ≤ c
    · exact mono_up line size a c b d w hac (by omega) (by omega) (by omega) (by omega)
    · exact mono_down line size c a b d w (by omega) (by omega) (by omega) (by omega) (by omega)

end Go.Proofs.Qxb6614585a
