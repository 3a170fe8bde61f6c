import Derived.Test.Qxb6614698aParts
import Derived.LaidEqlPtr
import Derived.Laws.Pointers
namespace Go.Proofs.Qxb6614698a
open Go.RowKit

theorem as30 (v : Value) (w : World) : (Instr.typeAssert (.iface 30 v) 20 30 true).run Try.prog w = .ok (.tuple #[v, .bool true]) w := by kernel_rfl

theorem eq30 (q : Option Addr) (w : World) : (binOp .eql 30 (.pointer q) (.pointer q)).run Try.prog w = .ok (.bool true) w := by
  cases q with
  | none => exact run_eql_pointer_nil w 30 none (by kernel_rfl)
  | some a =>
    obtain ⟨j, hj⟩ : ∃ j, Try.prog.info? 3 = some j := Option.isSome_iff_exists.1 (by kernel_rfl)
    exact run_eql_ptr_same w a Try.underlying30 hj

/-- The two variants: the nil interface, then the pointer. -/
def twoV (q : Option Addr) : Nat → Value
  | 0 => .nilIface
  | _ => .iface 30 (.pointer q)

set_option maxHeartbeats 1000000 in
theorem ptr_any (q : Option Addr) (w : World) :
    Calls Try.prog 5 #[.pointer q] w fun e w' => e = .returned (.bool true) ∧ Below w.heap.size w w' := by
  have HV : Hid (∀ i, i < 2 → AnyV (twoV q i)) := by
    intro i _
    match i with
    | 0 => exact .inl rfl
    | i + 1 => exact .inr ⟨_, _, rfl⟩
  have HC : Hid (CellsAt (w.alloc (.cells #[.nilIface, .iface 30 (.pointer q)] 20)) (some ⟨w.heap.size, 0, none⟩) 2 (twoV q)) := by
    refine .inr ⟨w.heap.size, 0, rfl, fun i hi => ?_⟩
    match i, hi with
    | 0, _ => simp [twoV]
    | 1, _ => simp [twoV]
  have HL : Hid (lst (fun i => isB (twoV q i)) 2 = ((1 : Nat) : Int)) := rfl
  have h30 := as30
  have he := eq30 q
  go_enter Try.func5, Try.ntmps5
  go_wp2_with (first | (go_at_call 17; refine (first_hit (some ⟨w.heap.size, 0, none⟩) 2 2 1 (twoV q) _ (by omega) HV.out HC.out (by omega) HL.out).mono ?_; rintro e w' ⟨rfl, rfl⟩; rw [show twoV q 1 = .iface 30 (.pointer q) from rfl]) | go_in)
  go_ret
  exact ⟨rfl, (Below.refl _ _).alloc (Nat.le_refl _) _⟩

end Go.Proofs.Qxb6614698a
