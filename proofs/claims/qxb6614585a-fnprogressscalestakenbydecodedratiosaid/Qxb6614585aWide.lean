import Derived.Laws.MathBits
import Derived.Laws.Bits64
namespace Go.Proofs.Qxb6614585a

theorem u64_in (x : Int) (h0 : 0 ≤ x) (h1 : x < 18446744073709551616) : IntKind.u64.wrap x = x := by
  rw [IntKind.wrap_u64]; omega

/-- The low and the high half of a word. -/
theorem prod_parts (a b : Int) : a * b = a / 4294967296 * (b / 4294967296) * 18446744073709551616 + (a / 4294967296 * (b % 4294967296) + a % 4294967296 * (b / 4294967296)) * 4294967296 + a % 4294967296 * (b % 4294967296) := by
  have ha : a = a / 4294967296 * 4294967296 + a % 4294967296 := by omega
  have hb : b = b / 4294967296 * 4294967296 + b % 4294967296 := by omega
  generalize a / 4294967296 = A1 at *
  generalize a % 4294967296 = A0 at *
  generalize b / 4294967296 = B1 at *
  generalize b % 4294967296 = B0 at *
  rw [ha, hb]
  simp only [Int.mul_add, Int.add_mul]
  have e1 : A1 * 4294967296 * (B1 * 4294967296) = A1 * B1 * 18446744073709551616 := by
    rw [Int.mul_assoc, Int.mul_left_comm 4294967296, ← Int.mul_assoc]; rfl
  have e2 : A0 * (B1 * 4294967296) = A0 * B1 * 4294967296 := by rw [Int.mul_assoc]
  have e3 : A1 * 4294967296 * B0 = A1 * B0 * 4294967296 := by rw [Int.mul_assoc, Int.mul_comm 4294967296, ← Int.mul_assoc]
  rw [e1, e2, e3]
  omega

theorem mul_bd {x y X Y : Int} (h0 : 0 ≤ x) (h1 : x ≤ X) (k0 : 0 ≤ y) (k1 : y ≤ Y) : 0 ≤ x * y ∧ x * y ≤ X * Y :=
  ⟨Int.mul_nonneg h0 k0, Int.mul_le_mul h1 k1 k0 (Int.le_trans h0 h1)⟩

/-- The high word as the Go text reckons it. -/
theorem hi_word (a b : Int) (ha0 : 0 ≤ a) (ha : a ≤ 2251799813685248) (hb0 : 0 ≤ b) (hb : b ≤ 2251799813685248) :
    IntKind.u64.wrap
            (IntKind.u64.wrap
                (IntKind.u64.wrap (a / 4294967296 * (b / 4294967296)) +
                  IntKind.u64.wrap
                      (IntKind.u64.wrap (a / 4294967296 * bits BinOp.and IntKind.u64 b 4294967295) +
                        IntKind.u64.wrap
                            (bits BinOp.and IntKind.u64 a 4294967295 * bits BinOp.and IntKind.u64 b 4294967295) /
                          4294967296) /
                    4294967296) +
              IntKind.u64.wrap
                  (bits BinOp.and IntKind.u64
                      (IntKind.u64.wrap
                        (IntKind.u64.wrap (a / 4294967296 * bits BinOp.and IntKind.u64 b 4294967295) +
                          IntKind.u64.wrap
                              (bits BinOp.and IntKind.u64 a 4294967295 *
                                bits BinOp.and IntKind.u64 b 4294967295) /
                            4294967296))
                      4294967295 +
                    IntKind.u64.wrap (bits BinOp.and IntKind.u64 a 4294967295 * (b / 4294967296))) /
                4294967296) = a * b / 18446744073709551616 := by
  rw [and_low32 a ha0 (by omega), and_low32 b hb0 (by omega)]
  have hp := mul_bd (x := a / 4294967296) (y := b / 4294967296) (X := 524288) (Y := 524288) (by omega) (by omega) (by omega) (by omega)
  have hu := mul_bd (x := a / 4294967296) (y := b % 4294967296) (X := 524288) (Y := 4294967295) (by omega) (by omega) (by omega) (by omega)
  have hv := mul_bd (x := a % 4294967296) (y := b / 4294967296) (X := 4294967295) (Y := 524288) (by omega) (by omega) (by omega) (by omega)
  have hz := mul_bd (x := a % 4294967296) (y := b % 4294967296) (X := 4294967295) (Y := 4294967295) (by omega) (by omega) (by omega) (by omega)
  rw [prod_parts a b]
  generalize a / 4294967296 * (b / 4294967296) = p at *
  generalize a / 4294967296 * (b % 4294967296) = u at *
  generalize a % 4294967296 * (b / 4294967296) = v at *
  generalize a % 4294967296 * (b % 4294967296) = z at *
  rw [u64_in p (by omega) (by omega), u64_in u (by omega) (by omega), u64_in v (by omega) (by omega), u64_in z (by omega) (by omega)]
  rw [u64_in (u + z / 4294967296) (by omega) (by omega)]
  rw [and_low32 (u + z / 4294967296) (by omega) (by omega)]
  rw [u64_in (p + (u + z / 4294967296) / 4294967296) (by omega) (by omega), u64_in ((u + z / 4294967296) % 4294967296 + v) (by omega) (by omega)]
  rw [u64_in _ (by omega) (by omega)]
  omega

end Go.Proofs.Qxb6614585a
