import Derived.Test.Qxb6609042aRows
import Derived.WalkKit
import Derived.WalkSpells
import Derived.WalkLawsBesides
namespace Go.Proofs.Qxb6609042a
open Go.RowKit

/-- One permission (its two strings) against a service and a method. -/
def mt (a b s m : ByteArray) : Bool := (a.toList == [42] || a.toList == s.toList) && (b.toList == [42] || b.toList == m.toList)

theorem mt_self (s m : ByteArray) : mt s m s m = true := by simp [mt]

set_option maxHeartbeats 400000 in
theorem matches_any (a b s m : ByteArray) (w : World) :
    Calls Try.prog 11 #[.agg #[.string a, .string b], .string s, .string m] w fun e w' => e = .returned (.bool (mt a b s m)) ∧ Below w.heap.size w w' := by
  go_enter Try.func11, Try.ntmps11
  go_wp2
  all_goals
    go_ret
    exact ⟨by simp [mt, *], (Below.refl _ _).alloc (Nat.le_refl _) _⟩

theorem bcell {W w1 : World} (hb : Below W.heap.size W w1) : (∀ b o, b < W.heap.size → w1.cell? ⟨b, o, none⟩ = W.cell? ⟨b, o, none⟩) ∧ (∀ b o, b < W.heap.size → w1.frozen? ⟨b, o, none⟩ = W.frozen? ⟨b, o, none⟩) :=
  ⟨fun b o h => hb.cell (p := ⟨b, o, none⟩) h, fun b o h => hb.frozen (p := ⟨b, o, none⟩) h⟩

theorem ret_bool {a b : Bool} (h : a = b) : Ending.returned (.bool a) = .returned (.bool b) := by rw [h]
theorem any_true {n k : Nat} {f : Nat → Bool} (h : k < n) (hf : f k = true) : (List.range n).any f = true := by
  rw [List.any_eq_true]; exact ⟨k, List.mem_range.2 h, hf⟩
theorem any_false {n : Nat} {f : Nat → Bool} (h : ∀ j, j < n → f j = false) : (List.range n).any f = false := by
  rw [List.any_eq_false]; intro x hx; rw [h x (List.mem_range.1 hx)]; simp
theorem no_succ {k : Nat} {f : Nat → Bool} (h : ∀ j, j < k → f j = false) (hk : f k = false) : ∀ j, j < k + 1 → f j = false := by
  intro j hj
  by_cases e : j = k
  · rw [e]; exact hk
  · exact h j (by omega)

set_option maxHeartbeats 1000000 in
theorem gives_some (r p off n cap : Nat) (S M : Nat → ByteArray) (s m : ByteArray) (w : World) (hn : n ≤ 2000000)
    (hr : w.cell? ⟨r, 1, none⟩ = some (.slice (some ⟨p, off, none⟩) n cap))
    (h0 : ∀ i, i < n → w.cell? ⟨p, off + i * 2, none⟩ = some (.string (S i)))
    (h1 : ∀ i, i < n → w.cell? ⟨p, off + i * 2 + 1, none⟩ = some (.string (M i))) :
    Calls Try.prog 10 #[.pointer (some ⟨r, 0, none⟩), .string s, .string m] w fun e w' => e = .returned (.bool ((List.range n).any fun i => mt (S i) (M i) s m)) ∧ Below w.heap.size w w' := by
  go_enter Try.func10, Try.ntmps10
  go_wp2
  go_loopw [14] (fun i wr => ∃ k : Nat, k ≤ n ∧ i = .int .i64 k ∧ (∀ j, j < k → mt (S j) (M j) s m = false) ∧ Below w.heap.size w wr) (fun i _ => n - (intOf i).toNat)
  case atStart => exact ⟨0, Nat.zero_le _, rfl, fun j hj => absurd hj (Nat.not_lt_zero _), Below.refl _ _⟩
  case round =>
    obtain ⟨k, hk, rfl, hno, hnx⟩ := hrel
    have HN : Hid (∀ j, j < k → mt (S j) (M j) s m = false) := hno
    clear hno
    by_cases hlt : k < n
    · have b0 := World.block_lt_of_cell? w _ (h0 k hlt)
      have c0 : wr.cell? ⟨p, off + k * 2, none⟩ = some (.string (S k)) := (hnx.cell (p := ⟨p, off + k * 2, none⟩) b0).trans (h0 k hlt)
      have c1 : wr.cell? ⟨p, off + k * 2 + 1, none⟩ = some (.string (M k)) := (hnx.cell (p := ⟨p, off + k * 2 + 1, none⟩) b0).trans (h1 k hlt)
      clear h0 h1 hr
      go_wp2_with (go_at_call 11; refine (matches_any _ _ _ _ _).mono ?_; rintro e w' ⟨rfl, hb⟩)
      · go_ret
        have hB : Below w.heap.size w w' := (hnx.alloc hnx.size _).trans (hb.mono (by have := hnx.size; simp; omega))
        exact ⟨ret_bool (any_true (f := fun i => mt (S i) (M i) s m) hlt ‹_›).symm, hB⟩
      · have hB : Below w.heap.size w w' := (hnx.alloc hnx.size _).trans (hb.mono (by have := hnx.size; simp; omega))
        have hf : mt (S k) (M k) s m = false := by assumption
        go_roundw
        case rel => exact ⟨k + 1, by omega, by go_num, no_succ (f := fun i => mt (S i) (M i) s m) HN.out hf, hB⟩
        case measure => simp [intOf]; omega
    · clear h0 h1 hr
      go_wp2
      go_ret
      have hkn : k = n := by omega
      exact ⟨ret_bool (any_false (f := fun i => mt (S i) (M i) s m) (hkn ▸ HN.out)).symm, hnx⟩

/-- No permission at all, wherever the slice leads. -/
theorem gives_none (r cap : Nat) (ad : Option Addr) (s m : ByteArray) (w : World) 
    (hr : w.cell? ⟨r, 1, none⟩ = some (.slice ad 0 cap)) :
    Calls Try.prog 10 #[.pointer (some ⟨r, 0, none⟩), .string s, .string m] w fun e w' => e = .returned (.bool false) ∧ Below w.heap.size w w' := by
  go_enter Try.func10, Try.ntmps10
  go_wp2
  refine wp_loop_rounds 1 ?_
  rw [rounds_succ]
  go_wp2
  go_ret
  exact ⟨rfl, Below.refl _ _⟩

/-- What 'gives' says of n permissions. -/
def givesB (S M : Nat → ByteArray) (n : Nat) (s m : ByteArray) : Bool := (List.range n).any fun i => mt (S i) (M i) s m

/-- The slice leads to n pairs of strings. -/
def Pairs (w : World) (ad : Option Addr) (n : Nat) (S M : Nat → ByteArray) : Prop :=
  n = 0 ∨ ∃ p off, ad = some ⟨p, off, none⟩ ∧ (∀ i, i < n → w.cell? ⟨p, off + i * 2, none⟩ = some (.string (S i))) ∧ (∀ i, i < n → w.cell? ⟨p, off + i * 2 + 1, none⟩ = some (.string (M i)))

theorem Pairs.below {w w' : World} {ad : Option Addr} {n : Nat} {S M : Nat → ByteArray} (h : Pairs w ad n S M) {B : Nat} (hb : Below B w w') (hB : ∀ p off, ad = some ⟨p, off, none⟩ → 0 < n → p < B) : Pairs w' ad n S M := by
  rcases h with h | ⟨p, off, rfl, h0, h1⟩
  · exact .inl h
  · by_cases hn : n = 0
    · exact .inl hn
    · have hp := hB p off rfl (by omega)
      exact .inr ⟨p, off, rfl, fun i hi => (hb.cell (p := ⟨p, off + i * 2, none⟩) hp).trans (h0 i hi), fun i hi => (hb.cell (p := ⟨p, off + i * 2 + 1, none⟩) hp).trans (h1 i hi)⟩

theorem gives_any (r n cap : Nat) (ad : Option Addr) (S M : Nat → ByteArray) (s m : ByteArray) (w : World) (hn : n ≤ 2000000)
    (hr : w.cell? ⟨r, 1, none⟩ = some (.slice ad n cap)) (hp : Pairs w ad n S M) :
    Calls Try.prog 10 #[.pointer (some ⟨r, 0, none⟩), .string s, .string m] w fun e w' => e = .returned (.bool (givesB S M n s m)) ∧ Below w.heap.size w w' := by
  rcases hp with rfl | ⟨p, off, rfl, h0, h1⟩
  · exact gives_none r cap ad s m w hr
  · exact gives_some r p off n cap S M s m w hn hr h0 h1

set_option maxHeartbeats 1000000 in
theorem roleGives_any (n cap : Nat) (ad : Option Addr) (S M : Nat → ByteArray) (s m : ByteArray) (w : World) (hn : n ≤ 2000000)
    (hp : Pairs w ad n S M) (hlt : ∀ p off, ad = some ⟨p, off, none⟩ → 0 < n → p < w.heap.size) :
    Calls Try.prog 7 #[.slice ad n cap, .string s, .string m] w fun e w' => e = .returned (.bool (givesB S M n s m)) ∧ Below w.heap.size w w' := by
  have hB := (Below.refl w.heap.size w).alloc (Nat.le_refl _) (Obj.cells #[Value.string { data := #[] }, Value.slice ad n cap] 37)
  have H1 : Hid (Pairs (w.alloc (Obj.cells #[Value.string { data := #[] }, Value.slice ad n cap] 37)) ad n S M) := hp.below hB hlt
  have H2 : Hid ((w.alloc (Obj.cells #[Value.string { data := #[] }, Value.slice ad n cap] 37)).cell? ⟨w.heap.size, 1, none⟩ = some (.slice ad n cap)) := by
    show World.cell? _ _ = _
    simp
  clear hp hlt
  go_enter Try.func7, Try.ntmps7
  go_wp2_with (first | (go_at_call 10; refine (gives_any w.heap.size n cap ad S M s m _ hn H2.out H1.out).mono ?_; rintro e w' ⟨rfl, hb⟩) | go_in)
  go_ret
  exact ⟨rfl, hB.trans (hb.mono (by simp))⟩

end Go.Proofs.Qxb6609042a
