import Derived.Test.Qxb6614585aMono
namespace Go.Proofs.Qxb6614585a
open Go.RowKit

set_option maxHeartbeats 1000000 in
theorem add_any (X o : Nat) (w : World) (h : X + o < 2 ^ 128) (ho : o < 2 ^ 64) :
    Calls Try.prog 10 #[.int .u64 (hiW X), .int .u64 (loW X), .int .u64 o] w fun e w' => e = .returned (.tuple #[.int .u64 (hiW (X + o)), .int .u64 (loW (X + o))]) ∧ w' = w := by
  have H1 : Hid (IntKind.u64.wrap (loW X + o) = loW (X + o)) := by
    show IntKind.u64.wrap _ = _
    unfold loW; rw [IntKind.wrap_u64]; omega
  by_cases hc : X % 2 ^ 64 + o < 2 ^ 64
  · have H2 : Hid (hiW X = hiW (X + o)) := by show _ = _; unfold hiW; omega
    have H3 : ¬ IntKind.u64.wrap (loW X + o) < loW X := by unfold loW; rw [IntKind.wrap_u64]; omega
    clear hc h ho
    go_enter Try.func10, Try.ntmps10
    go_wp2
    go_ret2
    exact ⟨ret_two H2.out H1.out, rfl⟩
  · have H2 : Hid (IntKind.u64.wrap (hiW X + 1) = hiW (X + o)) := by show IntKind.u64.wrap _ = _; unfold hiW; rw [IntKind.wrap_u64]; omega
    have H3 : IntKind.u64.wrap (loW X + o) < loW X := by unfold loW; rw [IntKind.wrap_u64]; omega
    clear hc h ho
    go_enter Try.func10, Try.ntmps10
    go_wp2
    go_ret2
    exact ⟨ret_two H2.out H1.out, rfl⟩

theorem add_at (X o : Nat) (h l : Int) (w : World) (hh : h = hiW X) (hl : l = loW X) (hb : X + o < 2 ^ 128) (ho : o < 2 ^ 64) :
    Calls Try.prog 10 #[.int .u64 h, .int .u64 l, .int .u64 o] w fun e w' => e = .returned (.tuple #[.int .u64 (hiW (X + o)), .int .u64 (loW (X + o))]) ∧ w' = w := by
  subst hh hl
  exact add_any X o w hb ho
theorem less_at (X Y : Nat) (h l : Int) (w : World) (hh : h = hiW X) (hl : l = loW X) :
    Calls Try.prog 6 #[.int .u64 h, .int .u64 l, .int .u64 (hiW Y), .int .u64 (loW Y)] w fun e w' => e = .returned (.bool (decide (X < Y))) ∧ w' = w := by
  subst hh hl
  have := less_any (hiW X) (loW X) (hiW Y) (loW Y) w
  rwa [less_words] at this

theorem exact_eq (T P o : Nat) (L : Int) (hL : L = P) (hT : T = P / o) (hP : P < 9007199254740992) : ((T : Int) == wrap64 (L / (o : Int))) = true := by
  subst hL hT
  rw [← Int.natCast_ediv]
  have : P / o ≤ P := Nat.div_le_self _ _
  generalize P / o = q at *
  have e : wrap64 (q : Int) = q := by unfold wrap64; omega
  rw [e]
  simp

set_option maxRecDepth 100000 in
set_option maxHeartbeats 4000000 in
theorem scale_out (line t size i o : Int) (w : World) (h : t < 0 ∨ 1125899906842624 < t ∨ i < 0 ∨ 1125899906842624 < i ∨ o < 1 ∨ 1125899906842624 < o) :
    Calls Try.prog 3 #[.int .i64 line, .int .i64 t, .int .i64 size, .int .i64 i, .int .i64 o] w fun e w' => e = .returned (.bool true) ∧ Below w.heap.size w w' := by
  go_enter Try.func3, Try.ntmps3
  go_wp2_with fail
  all_goals
    go_ret
    exact ⟨rfl, Below.refl _ _⟩

set_option maxRecDepth 100000 in
set_option maxHeartbeats 4000000 in
theorem scale_in (line size : Int) (a b o : Nat) (w : World) (ha : a ≤ 1125899906842624) (hb : b ≤ 1125899906842624) (ho0 : 1 ≤ o) (ho : o ≤ 1125899906842624) :
    Calls Try.prog 3 #[.int .i64 line, .int .i64 a, .int .i64 size, .int .i64 b, .int .i64 o] w fun e w' => e = .returned (.bool true) ∧ Below w.heap.size w w' := by
  have ha1 : (0 : Int) ≤ (a : Int) := by omega
  have ha2 : (a : Int) ≤ 1125899906842624 := by omega
  have hb1 : (0 : Int) ≤ (b : Int) := by omega
  have hb2 : (b : Int) ≤ 1125899906842624 := by omega
  have ho1 : (1 : Int) ≤ (o : Int) := by omega
  have ho2 : (o : Int) ≤ 1125899906842624 := by omega
  go_enter Try.func3, Try.ntmps3
  go_wp2_with fail
  refine (mul_any a b (by omega) (by omega) _).mono ?_
  rintro e w0 ⟨rfl, hw⟩
  obtain rfl : w = w0 := hw.symm
  clear hw
  obtain ⟨P, hP⟩ : ∃ P, P = a * b := ⟨_, rfl⟩
  rw [← hP]
  have HP : Hid (P = a * b) := hP
  clear hP
  go_wp2_with fail
  refine (less_any _ _ _ _ _).mono ?_
  rintro e w0 ⟨rfl, hw⟩
  obtain rfl : w = w0 := hw.symm
  clear hw
  rw [less_bound]
  by_cases hX : o * 2 ^ 50 < P
  · rw [decide_eq_true hX]
    clear hX
    go_wp2_with fail
    go_ret
    exact ⟨rfl, Below.refl _ _⟩
  rw [decide_eq_false hX]
  have HX : Hid (P ≤ o * 2 ^ 50) := by show _ ≤ _; omega
  clear hX
  go_wp2_with fail
  refine (new_plain line a size _).mono ?_
  rintro e w1 ⟨rfl, hR1, hB1⟩
  have R1 : Hid _ := hR1
  clear hR1
  go_wp2_with fail
  refine (zprogress_nil _ line a size _ R1.out).mono ?_
  rintro e w2 ⟨rfl, hB2⟩
  clear R1
  go_wp2_with fail
  refine (new_decoded line a size b o _).mono ?_
  rintro e w3 ⟨rfl, hR3, hD3, hB3⟩
  have R3 : Hid _ := hR3
  have D3 : Hid _ := hD3
  clear hR3 hD3
  go_wp2_with fail
  refine (zprogress_some _ _ line size a b o _ (by omega) (by omega) (by omega) (by omega) (by rw [← HP.out]; exact HX.out) R3.out D3.out).mono ?_
  rintro e w4 ⟨⟨T, rfl, hT⟩, hB4⟩
  have HT : Hid (Fl.RatioZ P o T) := by show Fl.RatioZ P o T; rw [HP.out]; exact hT
  clear R3 D3 hT HP
  have z1 := hB1.size
  have z2 := hB2.size
  have z3 := hB3.size
  have hB : Below w.heap.size w w4 := ((hB1.trans (hB2.mono (by omega))).trans (hB3.mono (by omega))).trans (hB4.mono (by omega))
  clear hB1 hB2 hB3 hB4 z1 z2 z3
  have HB : Hid _ := hB
  clear hB
  have hT1 : T ≤ 1125899906842624 := Fl.ratioZ_le (by omega) (by omega) HX.out HT.out
  have hT0 : (0 : Int) ≤ (T : Int) := by omega
  by_cases hs : P < 9007199254740992
  · have e1 : hiW P = 0 := by unfold hiW; omega
    have e2 : 0 ≤ loW P := by unfold loW; omega
    have e3 : loW P < 9007199254740992 := by unfold loW; omega
    have HQ : Hid (T = P / o) := Fl.ratioZ_exact (by omega) (by omega) HT.out
    have HL : Hid (loW P = P) := by show loW P = P; unfold loW; omega
    rw [e1]
    have HS : Hid (P < 9007199254740992) := hs
    clear e1 HX HT hs
    generalize loW P = L at *
    go_wp2_with fail
    go_ret
    exact ⟨ret_bool (exact_eq T P o L HL.out HQ.out HS.out), HB.out⟩
  have HN : Hid (¬ P + o < T * o ∧ P < (T + 2) * o) := by
    have := Fl.ratioZ_near (by omega) (by omega) HX.out HT.out
    exact ⟨by omega, this.2⟩
  have HP1 : Hid (P ≤ 1267650600228229401496703205376) := by have := HX.out; show P ≤ _; omega
  clear HX HT
  by_cases hz : hiW P = 0
  · have HH : Hid ((0 : Int) = hiW P) := hz.symm
    obtain ⟨L, hL⟩ : ∃ L, L = loW P := ⟨_, rfl⟩
    have hl : ¬ L < 9007199254740992 := by rw [hL]; unfold loW; unfold hiW at hz; omega
    rw [hz, ← hL]
    have HL : Hid (L = loW P) := hL
    clear hz hL hs
    go_wp2_with fail
    refine (mul_any T o (by omega) (by omega) _).mono ?_
    rintro e w5 ⟨rfl, hw⟩
    obtain rfl : w4 = w5 := hw.symm
    clear hw
    go_wp2_with fail
    refine (add_at P o 0 L _ HH.out HL.out (by have := HP1.out; omega) (by omega)).mono ?_
    rintro e w5 ⟨rfl, hw⟩
    obtain rfl : w4 = w5 := hw.symm
    clear hw
    go_wp2_with fail
    refine (less_any _ _ _ _ _).mono ?_
    rintro e w5 ⟨rfl, hw⟩
    obtain rfl : w4 = w5 := hw.symm
    clear hw
    rw [less_words, decide_eq_false HN.out.1]
    go_wp2_with fail
    rw [show (T : Int) + 2 = ((T + 2 : Nat) : Int) from by omega]
    refine (mul_any (T + 2) o (by omega) (by omega) _).mono ?_
    rintro e w5 ⟨rfl, hw⟩
    obtain rfl : w4 = w5 := hw.symm
    clear hw
    go_wp2_with fail
    refine (less_at P ((T + 2) * o) 0 L _ HH.out HL.out).mono ?_
    rintro e w5 ⟨rfl, hw⟩
    obtain rfl : w4 = w5 := hw.symm
    clear hw
    rw [decide_eq_true HN.out.2]
    go_wp2_with fail
    go_ret
    exact ⟨rfl, HB.out⟩
  · obtain ⟨Z, hZ⟩ : ∃ Z, Z = hiW P := ⟨_, rfl⟩
    obtain ⟨L, hL⟩ : ∃ L, L = loW P := ⟨_, rfl⟩
    have hz' : (Z == 0) = false := by rw [hZ]; simpa using hz
    rw [← hZ, ← hL]
    have HH : Hid (Z = hiW P) := hZ
    have HL : Hid (L = loW P) := hL
    clear hz hL hZ hs
    go_wp2_with fail
    refine (mul_any T o (by omega) (by omega) _).mono ?_
    rintro e w5 ⟨rfl, hw⟩
    obtain rfl : w4 = w5 := hw.symm
    clear hw
    go_wp2_with fail
    refine (add_at P o Z L _ HH.out HL.out (by have := HP1.out; omega) (by omega)).mono ?_
    rintro e w5 ⟨rfl, hw⟩
    obtain rfl : w4 = w5 := hw.symm
    clear hw
    go_wp2_with fail
    refine (less_any _ _ _ _ _).mono ?_
    rintro e w5 ⟨rfl, hw⟩
    obtain rfl : w4 = w5 := hw.symm
    clear hw
    rw [less_words, decide_eq_false HN.out.1]
    go_wp2_with fail
    rw [show (T : Int) + 2 = ((T + 2 : Nat) : Int) from by omega]
    refine (mul_any (T + 2) o (by omega) (by omega) _).mono ?_
    rintro e w5 ⟨rfl, hw⟩
    obtain rfl : w4 = w5 := hw.symm
    clear hw
    go_wp2_with fail
    refine (less_at P ((T + 2) * o) Z L _ HH.out HL.out).mono ?_
    rintro e w5 ⟨rfl, hw⟩
    obtain rfl : w4 = w5 := hw.symm
    clear hw
    rw [decide_eq_true HN.out.2]
    go_wp2_with fail
    go_ret
    exact ⟨rfl, HB.out⟩

/-- Whatever the five numbers. -/
theorem scale_any (line t size i o : Int) (w : World) :
    Calls Try.prog 3 #[.int .i64 line, .int .i64 t, .int .i64 size, .int .i64 i, .int .i64 o] w fun e w' => e = .returned (.bool true) ∧ Below w.heap.size w w' := by
  by_cases h : t < 0 ∨ 1125899906842624 < t ∨ i < 0 ∨ 1125899906842624 < i ∨ o < 1 ∨ 1125899906842624 < o
  · exact scale_out line t size i o w h
  · obtain ⟨a, rfl⟩ := Int.eq_ofNat_of_zero_le (show 0 ≤ t by omega)
    obtain ⟨b, rfl⟩ := Int.eq_ofNat_of_zero_le (show 0 ≤ i by omega)
    obtain ⟨d, rfl⟩ := Int.eq_ofNat_of_zero_le (show 0 ≤ o by omega)
    exact scale_in line size a b d w (by omega) (by omega) (by omega) (by omega)

end Go.Proofs.Qxb6614585a
