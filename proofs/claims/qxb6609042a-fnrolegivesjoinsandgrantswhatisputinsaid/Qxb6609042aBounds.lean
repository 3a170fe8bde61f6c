import Derived.Test.Qxb6609042aParts
import Derived.Deep.QuietTactic
import Derived.BigQuiet
namespace Go.Proofs.Qxb6609042a
open Go.RowKit

/-- It ends with a bool; and with true only where n is at most 1 << 20. -/
def EndsB (n : Nat) (e : Ending) : Prop := ∃ b, e = .returned (.bool b) ∧ (b = true → n ≤ 1048576)
/-- It ends with a bool. -/
def EndsAny (e : Ending) : Prop := ∃ b, e = .returned (.bool b)

set_option maxHeartbeats 2000000 in
theorem bytes_any (ad : Option Addr) (n cap : Nat) (k : Int) (S M : Nat → ByteArray) (s m : ByteArray) (w : World) (hp : Pairs w ad n S M) :
    Calls Try.prog 4 #[.slice ad n cap, .int .i64 k, .string s, .string m] w fun e w' => EndsB n e ∧ w' = w := by
  have HP : Hid (Pairs w ad n S M) := hp
  clear hp
  by_cases hn : n ≤ 1048576
  · go_enter Try.func4, Try.ntmps4
    go_wp2
    go_loop [9, 10] (fun z i => ∃ (t : Int) (k : Nat), k ≤ n ∧ i = .int .i64 k ∧ z = .int .i64 t ∧ 0 ≤ t ∧ t ≤ 1048576) (fun _ i => n - (intOf i).toNat)
    case atStart => exact ⟨_, 0, Nat.zero_le _, rfl, rfl, by omega, by omega⟩
    case round =>
      obtain ⟨t, j, hj, rfl, rfl, ht0, ht1⟩ := hrel
      by_cases hlt : j < n
      · rcases HP.out with h | ⟨p, off, rfl, h0, h1⟩
        · omega
        have c0 := h0 j hlt
        have c1 := h1 j hlt
        clear h0 h1 HP
        go_wp2
        all_goals first
          | (go_ret; exact ⟨⟨_, rfl, fun _ => hn⟩, rfl⟩)
          | skip
        go_round
        case rel => exact ⟨_, j + 1, by omega, by go_num, rfl, by omega, by omega⟩
        case measure => simp [intOf]; omega
      · go_wp2
        all_goals (go_ret; exact ⟨⟨_, rfl, fun _ => hn⟩, rfl⟩)
  · go_enter Try.func4, Try.ntmps4
    go_wp2
    go_ret
    exact ⟨⟨false, rfl, fun h => (by cases h)⟩, rfl⟩

set_option maxHeartbeats 2000000 in
theorem over_any (ad : Option Addr) (n cap : Nat) (S M : Nat → ByteArray) (s m : ByteArray) (w : World) (hn : n ≤ 1048576) (hp : Pairs w ad n S M) :
    Calls Try.prog 5 #[.slice ad n cap, .string s, .string m] w fun e w' => EndsAny e ∧ Below w.heap.size w w' := by
  have HP : Hid (Pairs w ad n S M) := hp
  clear hp
  go_enter Try.func5, Try.ntmps5
  go_wp2
  all_goals first | (go_ret; exact ⟨⟨_, rfl⟩, Below.refl _ _⟩) | skip
  go_loopw [7, 8] (fun z i wr => ∃ (t : Int) (k : Nat), k ≤ n ∧ i = .int .i64 k ∧ z = .int .i64 t ∧ 0 ≤ t ∧ t ≤ 1048576 ∧ Below w.heap.size w wr) (fun _ i _ => n - (intOf i).toNat)
  case atStart => exact ⟨_, 0, Nat.zero_le _, rfl, rfl, by omega, by omega, Below.refl _ _⟩
  case round =>
    obtain ⟨t, j, hj, rfl, rfl, ht0, ht1, hnx⟩ := hrel
    by_cases hlt : j < n
    · rcases HP.out with h | ⟨p, off, rfl, h0, h1⟩
      · omega
      have b0 := World.block_lt_of_cell? w _ (h0 j hlt)
      have c0 : wr.cell? ⟨p, off + j * 2, none⟩ = some (.string (S j)) := (hnx.cell (p := ⟨p, off + j * 2, none⟩) b0).trans (h0 j hlt)
      have c1 : wr.cell? ⟨p, off + j * 2 + 1, none⟩ = some (.string (M j)) := (hnx.cell (p := ⟨p, off + j * 2 + 1, none⟩) b0).trans (h1 j hlt)
      have i0 : (0 : Int) ≤ (j : Int) := Int.natCast_nonneg _
      have i1 : (j : Int) < (n : Int) := by omega
      clear h0 h1 HP b0
      by_cases hs : (S j).size ≤ 1048576
      · by_cases hm : (M j).size ≤ 1048576
        · go_wp2
          go_quiet (fail)
          go_wp2
          · go_ret
            exact ⟨⟨_, rfl⟩, below_drewN hnx _⟩
          · go_roundw
            case rel => exact ⟨_, j + 1, by omega, by go_num, rfl, by omega, by omega, below_drewN hnx _⟩
            case measure => simp [intOf]; omega
        · go_wp2
          go_ret
          exact ⟨⟨_, rfl⟩, hnx⟩
      · go_wp2
        go_ret
        exact ⟨⟨_, rfl⟩, hnx⟩
    · go_wp2
      go_ret
      exact ⟨⟨_, rfl⟩, hnx⟩

end Go.Proofs.Qxb6609042a
