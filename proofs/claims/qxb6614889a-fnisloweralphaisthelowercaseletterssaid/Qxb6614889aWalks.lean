import Derived.Test.Qxb6614889aRows
import Derived.WalkKit
import Derived.WalkSpells
import Derived.WalkLawsBesides
namespace Go.Proofs.Qxb6614889a
open Go.RowKit

theorem ret_bool {a b : Bool} (h : a = b) : Ending.returned (.bool a) = .returned (.bool b) := by rw [h]

/-- The lower-case letters; the upper-case ones. -/
def lowB (c : Int) : Bool := decide (97 ≤ c) && decide (c ≤ 122)
def upB (c : Int) : Bool := decide (65 ≤ c) && decide (c ≤ 90)

set_option maxHeartbeats 400000 in
theorem lower_any (c : Int) (w : World) : Calls Try.prog 4 #[.int .u8 c] w fun e w' => e = .returned (.bool (lowB c)) ∧ w' = w := by
  by_cases h1 : 97 ≤ c
  · by_cases h2 : c ≤ 122
    · go_enter Try.func4, Try.ntmps4
      go_wp2
      go_ret
      exact ⟨ret_bool (by simp [lowB, h1, h2]), rfl⟩
    · go_enter Try.func4, Try.ntmps4
      go_wp2
      go_ret
      exact ⟨ret_bool (by simp [lowB, h2]), rfl⟩
  · go_enter Try.func4, Try.ntmps4
    go_wp2
    go_ret
    exact ⟨ret_bool (by unfold lowB; rw [decide_eq_false (show ¬ 97 ≤ c by omega)]; rfl), rfl⟩

theorem up_byte_fin : ∀ k : Fin 26, (({ data := #[65, 66, 67, 68, 69, 70, 71, 72, 73, 74, 75, 76, 77, 78, 79, 80, 81, 82, 83, 84, 85, 86, 87, 88, 89, 90] } : ByteArray)[k.val]'(by have := k.isLt; exact this)).toNat = 65 + k.val := by decide
theorem up_byte (k : Nat) (h : k < 26) : ((({ data := #[65, 66, 67, 68, 69, 70, 71, 72, 73, 74, 75, 76, 77, 78, 79, 80, 81, 82, 83, 84, 85, 86, 87, 88, 89, 90] } : ByteArray)[k]'h).toNat : Int) = 65 + (k : Int) := by
  have := up_byte_fin ⟨k, h⟩
  simp only at this
  omega

theorem up_none {c : Int} (h : ∀ m : Nat, m < 26 → c ≠ 65 + (m : Int)) : upB c = false := by
  unfold upB
  by_cases h1 : 65 ≤ c
  · by_cases h2 : c ≤ 90
    · exact absurd (show c = 65 + (((c - 65).toNat : Nat) : Int) by omega) (h (c - 65).toNat (by omega))
    · rw [decide_eq_false h2]; simp
  · rw [decide_eq_false h1]; rfl

set_option maxHeartbeats 1000000 in
theorem upper_any (c : Int) (w : World) : Calls Try.prog 5 #[.int .u8 c] w fun e w' => e = .returned (.bool (upB c)) ∧ w' = w := by
  go_enter Try.func5, Try.ntmps5
  go_wp2
  go_loop [3] (fun i => ∃ k : Nat, k ≤ 26 ∧ i = .int .i64 k ∧ Hid (∀ m : Nat, m < k → c ≠ 65 + (m : Int))) (fun i => 26 - (intOf i).toNat)
  case atStart => exact ⟨0, Nat.zero_le _, rfl, fun m hm => absurd hm (Nat.not_lt_zero _)⟩
  case round =>
    obtain ⟨k, hk, rfl, HN⟩ := hrel
    by_cases hlt : k < 26
    · have hb := up_byte k hlt
      by_cases hc : c = 65 + (k : Int)
      · have HC : Hid (upB c = true) := by show upB c = true; simp [upB]; omega
        have hq : (((({ data := #[65, 66, 67, 68, 69, 70, 71, 72, 73, 74, 75, 76, 77, 78, 79, 80, 81, 82, 83, 84, 85, 86, 87, 88, 89, 90] } : ByteArray)[k]'hlt).toNat : Int) == c) = true := by rw [hb, hc]; simp
        clear hc hb
        go_wp2
        go_ret
        exact ⟨ret_bool HC.out.symm, rfl⟩
      · have HC : Hid (c ≠ 65 + (k : Int)) := hc
        have hq : (((({ data := #[65, 66, 67, 68, 69, 70, 71, 72, 73, 74, 75, 76, 77, 78, 79, 80, 81, 82, 83, 84, 85, 86, 87, 88, 89, 90] } : ByteArray)[k]'hlt).toNat : Int) == c) = false := by rw [hb]; simp; omega
        clear hc hb
        go_wp2
        go_round
        case rel =>
          refine ⟨k + 1, by omega, by go_num, fun m hm => ?_⟩
          by_cases e : m = k
          · rw [e]; exact HC.out
          · exact HN.out m (by omega)
        case measure => simp [intOf]; omega
    · obtain rfl : k = 26 := by omega
      go_wp2
      go_ret
      exact ⟨ret_bool (up_none HN.out).symm, rfl⟩

/-- How many lower-case letters lie below k. -/
def cnt (k : Nat) : Int := if k ≤ 97 then 0 else if k ≤ 123 then (k : Int) - 97 else 26
theorem cnt_yes {k : Nat} (h : lowB (k : Int) = true) : cnt (k + 1) = cnt k + 1 := by
  unfold lowB at h
  simp at h
  unfold cnt
  split <;> split <;> (try split) <;> (try split) <;> omega
theorem cnt_no {k : Nat} (h : lowB (k : Int) = false) : cnt (k + 1) = cnt k := by
  have h' : ¬ (97 ≤ (k : Int) ∧ (k : Int) ≤ 122) := by
    intro ⟨a, b⟩
    unfold lowB at h
    rw [decide_eq_true a, decide_eq_true b] at h
    cases h
  unfold cnt
  split <;> split <;> (try split) <;> (try split) <;> omega
theorem cnt_bd (k : Nat) : 0 ≤ cnt k ∧ cnt k ≤ 26 := by
  unfold cnt
  split
  · omega
  · split <;> omega

/-- The law on every byte. -/
theorem byte_law_fin : ∀ k : Fin 256, lowB (k.val : Int) = (upB (bits .andNot .u8 (k.val : Int) 32) && (bits .and .u8 (k.val : Int) 32 != 0)) ∧
    lowB (bits .xor .u8 (k.val : Int) 32) = (upB (bits .andNot .u8 (k.val : Int) 32) && (bits .and .u8 (k.val : Int) 32 == 0)) := by decide +kernel
theorem byte_law (c : Int) (h0 : 0 ≤ c) (h1 : c ≤ 255) : lowB c = (upB (bits .andNot .u8 c 32) && (bits .and .u8 c 32 != 0)) ∧ lowB (bits .xor .u8 c 32) = (upB (bits .andNot .u8 c 32) && (bits .and .u8 c 32 == 0)) := by
  have := byte_law_fin ⟨c.toNat, by omega⟩
  rwa [show ((c.toNat : Nat) : Int) = c by omega] at this

set_option maxRecDepth 100000 in
set_option maxHeartbeats 1000000 in
theorem law_any (c : Int) (h0 : 0 ≤ c) (h1 : c ≤ 255) (w : World) : Calls Try.prog 3 #[.int .u8 c] w fun e w' => e = .returned (.bool true) ∧ Below w.heap.size w w' := by
  obtain ⟨f1, f2⟩ := byte_law c h0 h1
  have F1 : Hid _ := f1
  have F2 : Hid _ := f2
  clear f1 f2
  go_enter Try.func3, Try.ntmps3
  go_wp2_with fail
  refine (lower_any _ _).mono ?_
  rintro e w0 ⟨rfl, hw⟩
  obtain rfl : w = w0 := hw.symm
  clear hw
  go_wp2_with fail
  refine (lower_any _ _).mono ?_
  rintro e w0 ⟨rfl, hw⟩
  obtain rfl : w = w0 := hw.symm
  clear hw
  go_wp2_with fail
  refine (upper_any _ _).mono ?_
  rintro e w0 ⟨rfl, hw⟩
  obtain rfl : w = w0 := hw.symm
  clear hw
  rw [F1.out, F2.out]
  obtain ⟨X, hX⟩ : ∃ X, X = bits .and .u8 c 32 := ⟨_, rfl⟩
  obtain ⟨U, hU⟩ : ∃ U, U = upB (bits .andNot .u8 c 32) := ⟨_, rfl⟩
  rw [← hX, ← hU]
  have HX : Hid (bits .and .u8 c 32 = X) := hX.symm
  clear hX hU F1 F2
  go_wp2_with fail
  go_loop [6, 7] (fun n i => ∃ k : Nat, k ≤ 256 ∧ i = .int .i64 k ∧ n = .int .i64 (cnt k)) (fun _ i => 256 - (intOf i).toNat)
  case atStart => exact ⟨0, Nat.zero_le _, rfl, rfl⟩
  case round =>
    obtain ⟨k, hk, rfl, rfl⟩ := hrel
    have hb := cnt_bd k
    have hb0 := hb.1
    have hb1 := hb.2
    clear hb
    by_cases hlt : k < 256
    · cases hl : lowB (k : Int) with
      | true =>
        have HC : Hid (cnt (k + 1) = cnt k + 1) := cnt_yes hl
        have HL : Hid _ := hl
        clear hl
        generalize cnt k = N at *
        go_wp2_with fail
        refine (lower_any _ _).mono ?_
        rintro e w0 ⟨rfl, hw⟩
        obtain rfl : w = w0 := hw.symm
        clear hw
        rw [HL.out]
        go_wp2_with fail
        go_round
        case rel => exact ⟨k + 1, by omega, by go_num, by rw [HC.out]⟩
        case measure => simp [intOf]; omega
      | false =>
        have HC : Hid (cnt (k + 1) = cnt k) := cnt_no hl
        have HL : Hid _ := hl
        clear hl
        generalize cnt k = N at *
        go_wp2_with fail
        refine (lower_any _ _).mono ?_
        rintro e w0 ⟨rfl, hw⟩
        obtain rfl : w = w0 := hw.symm
        clear hw
        rw [HL.out]
        go_wp2_with fail
        go_round
        case rel => exact ⟨k + 1, by omega, by go_num, by rw [HC.out]⟩
        case measure => simp [intOf]; omega
    · obtain rfl : k = 256 := by omega
      rw [show cnt 256 = 26 from rfl]
      clear hb0 hb1 hlt hk
      have hx := HX.out
      cases U with
      | true =>
        cases hz : (X == 0) with
        | true =>
          have hz' : (X != 0) = false := by simp [bne, hz]
          go_wp2_with fail
          go_ret
          exact ⟨rfl, Below.refl _ _⟩
        | false =>
          have hz' : (X != 0) = true := by simp [bne, hz]
          go_wp2_with fail
          go_ret
          exact ⟨rfl, Below.refl _ _⟩
      | false =>
        go_wp2_with fail
        go_ret
        exact ⟨rfl, Below.refl _ _⟩

end Go.Proofs.Qxb6614889a
