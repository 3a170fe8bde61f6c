import Derived.Test.Qxb6614585aRows
import Derived.Test.Qxb6614585aPlain
import Derived.Test.Qxb6614585aWide
import Derived.WalkKit
import Derived.WalkSpells
import Derived.WalkLawsBesides
import Derived.Deep.QuietTactic
import Derived.BigQuiet
namespace Go.Proofs.Qxb6614585a
open Go.RowKit

set_option maxHeartbeats 1000000 in
theorem progress_nil (r : Nat) (line taken size : Int) (w : World)
    (hl : w.cell? ⟨r, 4, none⟩ = some (.int .i64 line)) (ht : w.cell? ⟨r, 5, none⟩ = some (.int .i64 taken)) (hs : w.cell? ⟨r, 11, none⟩ = some (.int .i64 size)) (hd : w.cell? ⟨r, 12, none⟩ = some (.pointer none)) :
    Calls Try.prog 11 #[.pointer (some ⟨r, 0, none⟩)] w fun e w' => e = .returned (.tuple #[.int .i64 line, .int .i64 taken, .int .i64 size]) ∧ Below w.heap.size w w' := by
  go_enter Try.func11, Try.ntmps11
  go_wp2
  go_quiet (fail)
  go_wp2
  go_ret3
  exact ⟨rfl, below_drewN (Below.refl _ _) _⟩

set_option maxHeartbeats 1000000 in
theorem progress_zero (r d : Nat) (line taken size : Int) (w : World)
    (hl : w.cell? ⟨r, 4, none⟩ = some (.int .i64 line)) (ht : w.cell? ⟨r, 5, none⟩ = some (.int .i64 taken)) (hs : w.cell? ⟨r, 11, none⟩ = some (.int .i64 size)) (hd : w.cell? ⟨r, 12, none⟩ = some (.pointer (some ⟨d, 0, none⟩)))
    (ho : w.cell? ⟨d, 4, none⟩ = some (.int .i64 0)) :
    Calls Try.prog 11 #[.pointer (some ⟨r, 0, none⟩)] w fun e w' => e = .returned (.tuple #[.int .i64 line, .int .i64 taken, .int .i64 size]) ∧ Below w.heap.size w w' := by
  go_enter Try.func11, Try.ntmps11
  go_wp2
  go_quiet (fail)
  go_wp2
  go_ret3
  exact ⟨rfl, below_drewN (Below.refl _ _) _⟩

/-- The three values that progress hands back with a decoder that has decoded something. -/
def Scaled (line size : Int) (P o : Nat) (e : Ending) : Prop := ∃ T : Nat, e = .returned (.tuple #[.int .i64 line, .int .i64 T, .int .i64 size]) ∧ Fl.RatioZ P o T

set_option maxHeartbeats 1000000 in
theorem progress_some (r d : Nat) (line size : Int) (a b o : Nat) (w : World) (ha : a ≤ 2 ^ 50) (hb : b ≤ 2 ^ 50) (ho0 : 0 < o) (ho1 : o ≤ 2 ^ 50) (hab : a * b ≤ o * 2 ^ 50)
    (hl : w.cell? ⟨r, 4, none⟩ = some (.int .i64 line)) (ht : w.cell? ⟨r, 5, none⟩ = some (.int .i64 a)) (hs : w.cell? ⟨r, 11, none⟩ = some (.int .i64 size)) (hd : w.cell? ⟨r, 12, none⟩ = some (.pointer (some ⟨d, 0, none⟩)))
    (hi : w.cell? ⟨d, 3, none⟩ = some (.int .i64 b)) (ho : w.cell? ⟨d, 4, none⟩ = some (.int .i64 o)) :
    Calls Try.prog 11 #[.pointer (some ⟨r, 0, none⟩)] w fun e w' => Scaled line size (a * b) o e ∧ Below w.heap.size w w' := by
  obtain ⟨wp, wd, T, f1, f2, f3, f4⟩ := Fl.float_all a b o ha hb ho0 ho1 hab
  have F4 : Hid (Fl.RatioZ (a * b) o T) := f4
  have g1 : ∀ w, (binOp .mul 51 (.float .f64 (floatOfInt .f64 (a : Int))) (.float .f64 (floatOfInt .f64 (b : Int)))).run Try.prog w = .ok (.float .f64 wp) w := fun w => run_float_arith w .mul 51 .f64 _ _ _ f1
  have g2 : ∀ w, (binOp .quo 51 (.float .f64 wp) (.float .f64 (floatOfInt .f64 (o : Int)))).run Try.prog w = .ok (.float .f64 wd) w := fun w => run_float_arith w .quo 51 .f64 _ _ _ f2
  have g3 : ∀ w, (convert 51 2 (.float .f64 wd)).run Try.prog w = .ok (.int .i64 T) w := fun w => run_convert_float_int w 51 2 .f64 .i64 wd T (by rw [Try.underlying51]; rfl) Try.underlying2 f3
  have hop : (0 : Int) < (o : Int) := by omega
  clear f1 f2 f3 f4 ha hb ho1 hab ho0
  go_enter Try.func11, Try.ntmps11
  go_wp2
  go_quiet (fail)
  go_wp2
  go_quiet (fail)
  go_wp2
  go_ret3
  exact ⟨⟨T, rfl, F4.out⟩, below_drewN (below_drewN (Below.refl _ _) _) _⟩

theorem ret_two {k : IntKind} {a b c d : Int} (h : a = c) (h' : b = d) : Ending.returned (.tuple #[.int k a, .int k b]) = .returned (.tuple #[.int k c, .int k d]) := by rw [h, h']

/-- The two words of a product. -/
def hiW (X : Nat) : Int := ((X / 2 ^ 64 : Nat) : Int)
def loW (X : Nat) : Int := ((X % 2 ^ 64 : Nat) : Int)

set_option maxHeartbeats 1000000 in
theorem mul_any (a b : Nat) (ha : a ≤ 2251799813685248) (hb : b ≤ 2251799813685248) (w : World) :
    Calls Try.prog 5 #[.int .u64 a, .int .u64 b] w fun e w' => e = .returned (.tuple #[.int .u64 (hiW (a * b)), .int .u64 (loW (a * b))]) ∧ w' = w := by
  have e1 := hi_word a b (by omega) (by omega) (by omega) (by omega)
  have H1 : Hid (a * b / 18446744073709551616 = hiW (a * b)) := by show _ = ((_ : Nat) : Int); rw [Int.natCast_ediv, Int.natCast_mul]; rfl
  have H2 : Hid (IntKind.u64.wrap (a * b) = loW (a * b)) := by show IntKind.u64.wrap _ = ((_ : Nat) : Int); rw [IntKind.wrap_u64, Int.natCast_emod, Int.natCast_mul]; rfl
  have H3 := e1.trans H1.out
  have H4 : Hid _ := H3
  clear e1 H1 H3
  go_enter Try.func5, Try.ntmps5
  go_wp2
  go_ret2
  exact ⟨ret_two H4.out H2.out, rfl⟩

/-- What meetingB1Less says of two pairs of words. -/
def lessB (ah al bh bl : Int) : Bool := decide (ah < bh) || (decide (ah = bh) && decide (al < bl))

set_option maxHeartbeats 1000000 in
theorem less_any (ah al bh bl : Int) (w : World) :
    Calls Try.prog 6 #[.int .u64 ah, .int .u64 al, .int .u64 bh, .int .u64 bl] w fun e w' => e = .returned (.bool (lessB ah al bh bl)) ∧ w' = w := by
  by_cases h1 : ah < bh
  · go_enter Try.func6, Try.ntmps6
    go_wp2
    go_ret
    exact ⟨by simp [lessB, h1], rfl⟩
  · by_cases h2 : ah = bh
    · subst h2
      go_enter Try.func6, Try.ntmps6
      go_wp2
      go_ret
      exact ⟨by simp [lessB], rfl⟩
    · have h3 : (ah == bh) = false := by simpa using h2
      go_enter Try.func6, Try.ntmps6
      go_wp2
      go_ret
      exact ⟨by simp [lessB, h1, h2], rfl⟩

/-- What lies behind a pointer to csvRows, as far as progress looks. -/
def RowsAt (w : World) (r : Nat) (line taken size : Int) (d : Value) : Prop :=
  w.cell? ⟨r, 4, none⟩ = some (.int .i64 line) ∧ w.cell? ⟨r, 5, none⟩ = some (.int .i64 taken) ∧ w.cell? ⟨r, 11, none⟩ = some (.int .i64 size) ∧ w.cell? ⟨r, 12, none⟩ = some d
def DecAt (w : World) (d : Nat) (i o : Int) : Prop := w.cell? ⟨d, 3, none⟩ = some (.int .i64 i) ∧ w.cell? ⟨d, 4, none⟩ = some (.int .i64 o)

set_option maxHeartbeats 1000000 in
theorem new_plain (line taken size : Int) (w : World) :
    Calls Try.prog 8 #[.int .i64 line, .int .i64 taken, .int .i64 size] w fun e w' => e = .returned (.pointer (some ⟨w.heap.size, 0, none⟩)) ∧ RowsAt w' w.heap.size line taken size (.pointer none) ∧ Below w.heap.size w w' := by
  go_enter Try.func8, Try.ntmps8
  go_wp2
  go_ret
  refine ⟨rfl, ⟨?_, ?_, ?_, ?_⟩, (Below.refl _ _).alloc (Nat.le_refl _) _⟩ <;> simp

set_option maxHeartbeats 1000000 in
theorem new_decoded (line taken size i o : Int) (w : World) :
    Calls Try.prog 9 #[.int .i64 line, .int .i64 taken, .int .i64 size, .int .i64 i, .int .i64 o] w fun e w' => e = .returned (.pointer (some ⟨w.heap.size + 1, 0, none⟩)) ∧ RowsAt w' (w.heap.size + 1) line taken size (.pointer (some ⟨w.heap.size, 0, none⟩)) ∧ DecAt w' w.heap.size i o ∧ Below w.heap.size w w' := by
  go_enter Try.func9, Try.ntmps9
  go_wp2
  go_ret
  refine ⟨rfl, ⟨?_, ?_, ?_, ?_⟩, ⟨?_, ?_⟩, ((Below.refl _ _).alloc (Nat.le_refl _) _).alloc (by simp) _⟩ <;> simp

set_option maxHeartbeats 1000000 in
theorem zprogress_nil (r : Nat) (line taken size : Int) (w : World) (h : RowsAt w r line taken size (.pointer none)) :
    Calls Try.prog 7 #[.pointer (some ⟨r, 0, none⟩)] w fun e w' => e = .returned (.tuple #[.int .i64 line, .int .i64 taken, .int .i64 size]) ∧ Below w.heap.size w w' := by
  have H : Hid (RowsAt w r line taken size (.pointer none)) := h
  clear h
  go_enter Try.func7, Try.ntmps7
  go_wp2_with (go_at_call 11; refine (progress_nil r line taken size _ H.out.1 H.out.2.1 H.out.2.2.1 H.out.2.2.2).mono ?_; rintro e w' ⟨rfl, hb⟩)
  go_ret3
  exact ⟨rfl, hb⟩

set_option maxHeartbeats 1000000 in
theorem zprogress_zero (r d : Nat) (line taken size i : Int) (w : World) (h : RowsAt w r line taken size (.pointer (some ⟨d, 0, none⟩))) (hd : DecAt w d i 0) :
    Calls Try.prog 7 #[.pointer (some ⟨r, 0, none⟩)] w fun e w' => e = .returned (.tuple #[.int .i64 line, .int .i64 taken, .int .i64 size]) ∧ Below w.heap.size w w' := by
  have H : Hid (RowsAt w r line taken size (.pointer (some ⟨d, 0, none⟩)) ∧ DecAt w d i 0) := ⟨h, hd⟩
  clear h hd
  go_enter Try.func7, Try.ntmps7
  go_wp2_with (go_at_call 11; refine (progress_zero r d line taken size _ H.out.1.1 H.out.1.2.1 H.out.1.2.2.1 H.out.1.2.2.2 H.out.2.2).mono ?_; rintro e w' ⟨rfl, hb⟩)
  go_ret3
  exact ⟨rfl, hb⟩

set_option maxHeartbeats 1000000 in
theorem zprogress_some (r d : Nat) (line size : Int) (a b o : Nat) (w : World) (ha : a ≤ 2 ^ 50) (hb : b ≤ 2 ^ 50) (ho0 : 0 < o) (ho1 : o ≤ 2 ^ 50) (hab : a * b ≤ o * 2 ^ 50)
    (h : RowsAt w r line a size (.pointer (some ⟨d, 0, none⟩))) (hd : DecAt w d b o) :
    Calls Try.prog 7 #[.pointer (some ⟨r, 0, none⟩)] w fun e w' => Scaled line size (a * b) o e ∧ Below w.heap.size w w' := by
  have H : Hid (RowsAt w r line a size (.pointer (some ⟨d, 0, none⟩)) ∧ DecAt w d b o) := ⟨h, hd⟩
  clear h hd
  have HA : Hid (a ≤ 2 ^ 50 ∧ b ≤ 2 ^ 50 ∧ 0 < o ∧ o ≤ 2 ^ 50 ∧ a * b ≤ o * 2 ^ 50) := ⟨ha, hb, ho0, ho1, hab⟩
  clear ha hb ho0 ho1 hab
  go_enter Try.func7, Try.ntmps7
  go_wp2_with (go_at_call 11; refine (progress_some r d line size a b o _ HA.out.1 HA.out.2.1 HA.out.2.2.1 HA.out.2.2.2.1 HA.out.2.2.2.2 H.out.1.1 H.out.1.2.1 H.out.1.2.2.1 H.out.1.2.2.2 H.out.2.1 H.out.2.2).mono ?_; rintro e w' ⟨⟨T, rfl, hT⟩, hb⟩)
  go_ret3
  exact ⟨⟨T, rfl, hT⟩, hb⟩

end Go.Proofs.Qxb6614585a
