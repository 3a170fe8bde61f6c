import Derived.Test.Qxb6614698aRows
import Derived.WalkKit
import Derived.WalkSpells
import Derived.WalkLawsBesides
namespace Go.Proofs.Qxb6614698a
open Go.RowKit

theorem ret_bool {a b : Bool} (h : a = b) : Ending.returned (.bool a) = .returned (.bool b) := by rw [h]

/-- A value of type any that is not nil. -/
def isB : Value → Bool
  | .nilIface => false
  | _ => true
/-- The value is one of type any. -/
def AnyV (v : Value) : Prop := v = .nilIface ∨ ∃ t x, v = .iface t x

set_option maxHeartbeats 400000 in
theorem isSet_any (v : Value) (h : AnyV v) (w : World) : Calls Try.prog 19 #[v] w fun e w' => e = .returned (.bool (isB v)) ∧ w' = w := by
  rcases h with rfl | ⟨t, x, rfl⟩
  · go_enter Try.func19, Try.ntmps19
    go_wp2
    go_ret
    exact ⟨rfl, rfl⟩
  · go_enter Try.func19, Try.ntmps19
    go_wp2
    go_ret
    exact ⟨rfl, rfl⟩

/-- The least index below n at which f says yes, or -1. -/
def lst (f : Nat → Bool) : Nat → Int
  | 0 => -1
  | n + 1 => if lst f n = -1 then (if f n then (n : Int) else -1) else lst f n

theorem lst_miss {f : Nat → Bool} {n : Nat} (h : ∀ j, j < n → f j = false) : lst f n = -1 := by
  induction n with
  | zero => rfl
  | succ n ih => rw [lst, if_pos (ih fun j hj => h j (by omega)), h n (by omega)]; rfl

theorem lst_hit {f : Nat → Bool} {n k : Nat} (hk : k < n) (hf : f k = true) (h : ∀ j, j < k → f j = false) : lst f n = k := by
  induction n with
  | zero => omega
  | succ n ih =>
    by_cases e : k = n
    · subst e; rw [lst, if_pos (lst_miss h), if_pos hf]
    · have := ih (by omega)
      rw [lst, this, if_neg (by omega)]

theorem lst_cases (f : Nat → Bool) (n : Nat) : (lst f n = -1 ∧ ∀ j, j < n → f j = false) ∨ ∃ k, k < n ∧ lst f n = k ∧ f k = true ∧ ∀ j, j < k → f j = false := by
  induction n with
  | zero => exact .inl ⟨rfl, fun j hj => absurd hj (Nat.not_lt_zero _)⟩
  | succ n ih =>
    rcases ih with ⟨h1, h2⟩ | ⟨k, hk, h1, h2, h3⟩
    · cases hf : f n with
      | true => exact .inr ⟨n, by omega, lst_hit (by omega) hf h2, hf, h2⟩
      | false =>
        refine .inl ⟨?_, ?_⟩
        · rw [lst, if_pos h1, hf]; rfl
        · intro j hj
          by_cases e : j = n
          · rw [e]; exact hf
          · exact h2 j (by omega)
    · exact .inr ⟨k, by omega, lst_hit (by omega) h2 h3, h2, h3⟩

/-- The slice leads to n cells. -/
def CellsAt (w : World) (ad : Option Addr) (n : Nat) (V : Nat → Value) : Prop :=
  n = 0 ∨ ∃ p off, ad = some ⟨p, off, none⟩ ∧ ∀ i, i < n → w.cell? ⟨p, off + i, none⟩ = some (V i)

theorem no_succ {k : Nat} {f : Nat → Bool} (h : ∀ j, j < k → f j = false) (hk : f k = false) : ∀ j, j < k + 1 → f j = false := by
  intro j hj
  by_cases e : j = k
  · rw [e]; exact hk
  · exact h j (by omega)

theorem ret_int {k : IntKind} {a b : Int} (h : a = b) : Ending.returned (.int k a) = .returned (.int k b) := by rw [h]

set_option maxHeartbeats 1000000 in
theorem index_some (p off n cap : Nat) (V : Nat → Value) (w : World) (hn : n ≤ 2000000) (hv : ∀ i, i < n → AnyV (V i)) (hc : ∀ i, i < n → w.cell? ⟨p, off + i, none⟩ = some (V i)) :
    Calls Try.prog 21 #[.slice (some ⟨p, off, none⟩) n cap, .func (.func 19) #[] #[]] w fun e w' => e = .returned (.int .i64 (lst (fun i => isB (V i)) n)) ∧ w' = w := by
  go_enter Try.func21, Try.ntmps21
  go_wp2
  go_loop [8] (fun i => ∃ k : Nat, k ≤ n ∧ i = .int .i64 k ∧ ∀ j, j < k → isB (V j) = false) (fun i => n - (intOf i).toNat)
  case atStart => exact ⟨0, Nat.zero_le _, rfl, fun j hj => absurd hj (Nat.not_lt_zero _)⟩
  case round =>
    obtain ⟨k, hk, rfl, hno⟩ := hrel
    have HN : Hid (∀ j, j < k → isB (V j) = false) := hno
    clear hno
    by_cases hlt : k < n
    · have c := hc k hlt
      have HV : Hid (AnyV (V k)) := hv k hlt
      clear hc hv
      go_wp2_with (go_at_call 19; refine (isSet_any _ HV.out _).mono ?_; rintro e w' ⟨rfl, rfl⟩)
      · go_ret
        exact ⟨ret_int (lst_hit (f := fun i => isB (V i)) hlt ‹_› HN.out).symm, rfl⟩
      · have hf : isB (V k) = false := by assumption
        go_round
        case rel => exact ⟨k + 1, by omega, by go_num, no_succ (f := fun i => isB (V i)) HN.out hf⟩
        case measure => simp [intOf]; omega
    · clear hc hv
      go_wp2
      go_ret
      have hkn : k = n := by omega
      exact ⟨ret_int (lst_miss (f := fun i => isB (V i)) (hkn ▸ HN.out)).symm, rfl⟩

set_option maxHeartbeats 1000000 in
theorem index_none (ad : Option Addr) (cap : Nat) (w : World) :
    Calls Try.prog 21 #[.slice ad 0 cap, .func (.func 19) #[] #[]] w fun e w' => e = .returned (.int .i64 (-1)) ∧ w' = w := by
  go_enter Try.func21, Try.ntmps21
  go_wp2
  refine wp_loop_rounds 1 ?_
  rw [rounds_succ]
  go_wp2
  go_ret
  exact ⟨rfl, rfl⟩

theorem index_any (ad : Option Addr) (n cap : Nat) (V : Nat → Value) (w : World) (hn : n ≤ 2000000) (hv : ∀ i, i < n → AnyV (V i)) (hc : CellsAt w ad n V) :
    Calls Try.prog 21 #[.slice ad n cap, .func (.func 19) #[] #[]] w fun e w' => e = .returned (.int .i64 (lst (fun i => isB (V i)) n)) ∧ w' = w := by
  rcases hc with rfl | ⟨p, off, rfl, hc⟩
  · exact index_none ad cap w
  · exact index_some p off n cap V w hn hv hc

set_option maxHeartbeats 1000000 in
theorem first_hit (ad : Option Addr) (n cap k : Nat) (V : Nat → Value) (w : World) (hn : n ≤ 2000000) (hv : ∀ i, i < n → AnyV (V i)) (hc : CellsAt w ad n V) (hk : k < n) (hl : lst (fun i => isB (V i)) n = k) :
    Calls Try.prog 17 #[.slice ad n cap] w fun e w' => e = .returned (.tuple #[V k, .int .i64 k]) ∧ w' = w := by
  rcases hc with h | ⟨p, off, rfl, hc⟩
  · omega
  have c := hc k hk
  have k0 : (0 : Int) ≤ (k : Int) := by omega
  have k1 : (k : Int) < (n : Int) := by omega
  have HC : Hid _ := hc
  have HV : Hid _ := hv
  have HL : Hid _ := hl
  clear hc hv hl
  go_enter Try.func17, Try.ntmps17
  go_wp2_with fail
  refine (index_some p off n cap V _ hn HV.out HC.out).mono ?_
  rintro e w0 ⟨rfl, hw⟩
  obtain rfl : w = w0 := hw.symm
  clear hw
  rw [HL.out]
  go_wp2_with fail
  go_ret2
  exact ⟨rfl, rfl⟩

set_option maxHeartbeats 1000000 in
theorem first_miss (ad : Option Addr) (n cap : Nat) (V : Nat → Value) (w : World) (hn : n ≤ 2000000) (hv : ∀ i, i < n → AnyV (V i)) (hc : CellsAt w ad n V) (hl : lst (fun i => isB (V i)) n = -1) :
    Calls Try.prog 17 #[.slice ad n cap] w fun e w' => e = .returned (.tuple #[.nilIface, .int .i64 (-1)]) ∧ w' = w := by
  have HC : Hid _ := hc
  have HV : Hid _ := hv
  have HL : Hid _ := hl
  clear hc hv hl
  go_enter Try.func17, Try.ntmps17
  go_wp2_with fail
  refine (index_any ad n cap V _ hn HV.out HC.out).mono ?_
  rintro e w0 ⟨rfl, hw⟩
  obtain rfl : w = w0 := hw.symm
  clear hw
  rw [HL.out]
  go_wp2_with fail
  go_ret2
  exact ⟨rfl, rfl⟩

end Go.Proofs.Qxb6614698a
