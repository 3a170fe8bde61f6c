import Derived.Test.Qxb6614698aFirst
import Derived.ProofKit
import Derived.Deep.Slices
namespace Go.Proofs.Qxb6614698a
open Go.ChangeShapes Go.WideShapes Go.ChangeAt Go.RowKit

/-- A slice of bools that came in leads to bools; nil is empty and without room. -/
theorem bools_of_arg {H : Type} {enc : TypeId × Value → H} {W : World} {a : Option Addr} {n c fuel : Nat} {x : DataW H × List MemPlace}
    (hf : DataW.trod enc Try.prog W 0 (fun _ => true) true fuel 22 [.slice a n c] = some x) : ∃ S, BoolsAt W a n S ∧ (a = none → n = 0 ∧ c = 0) := by
  rcases Go.Deep.open_slice1 Try.underlying22 (by kernel_rfl) hf with ⟨hcs, _⟩ | ⟨ad, len, cap, m, k, V, D, Pl, hcs, _, hl, hm, hmm, _, hx⟩
  · cases hcs
    exact ⟨fun _ => false, .inl rfl, fun _ => ⟨rfl, rfl⟩⟩
  · cases hcs
    by_cases h0 : n = 0
    · exact ⟨fun _ => false, .inl h0, fun h => by cases h⟩
    · have hle : ∀ i, i < n → i < m := fun i hi => by rw [hmm]; simp; omega
      have each : ∀ i, i < n → ∃ q : Bool, V i = .bool q := by
        intro i hi
        obtain ⟨q, e, _⟩ := DataW.trod_bool Try.underlying4 (hx i (hle i hi)).2
        exact ⟨q, by simpa using e⟩
      obtain ⟨S, hS⟩ := Go.Deep.choose_lt each
      obtain ⟨b, off, spot⟩ := ad
      have hspot : spot = none := by
        have := (hx 0 (hle 0 (by omega))).1
        simpa [Addr.add] using World.cell?_spot this
      subst hspot
      refine ⟨S, .inr ⟨b, off, rfl, fun i hi => ?_⟩, fun h => by cases h⟩
      have := (hx i (hle i hi)).1
      rw [add_plain, hS i hi] at this
      exact this

/-- The same of a slice of ints. -/
theorem ints_of_arg {H : Type} {enc : TypeId × Value → H} {W : World} {a : Option Addr} {n c fuel : Nat} {x : DataW H × List MemPlace}
    (hf : DataW.trod enc Try.prog W 0 (fun _ => true) true fuel 23 [.slice a n c] = some x) : ∃ Z, IntsAt W a n Z ∧ (a = none → n = 0 ∧ c = 0) := by
  rcases Go.Deep.open_slice1 Try.underlying23 (by kernel_rfl) hf with ⟨hcs, _⟩ | ⟨ad, len, cap, m, k, V, D, Pl, hcs, _, hl, hm, hmm, _, hx⟩
  · cases hcs
    exact ⟨fun _ => 0, .inl rfl, fun _ => ⟨rfl, rfl⟩⟩
  · cases hcs
    by_cases h0 : n = 0
    · exact ⟨fun _ => 0, .inl h0, fun h => by cases h⟩
    · have hle : ∀ i, i < n → i < m := fun i hi => by rw [hmm]; simp; omega
      have each : ∀ i, i < n → ∃ q : Int, V i = .int .i64 q := by
        intro i hi
        obtain ⟨q, e, _⟩ := DataW.trod_int Try.underlying3 (hx i (hle i hi)).2
        exact ⟨q, by simpa using e⟩
      obtain ⟨Z, hZ⟩ := Go.Deep.choose_lt each
      obtain ⟨b, off, spot⟩ := ad
      have hspot : spot = none := by
        have := (hx 0 (hle 0 (by omega))).1
        simpa [Addr.add] using World.cell?_spot this
      subst hspot
      refine ⟨Z, .inr ⟨b, off, rfl, fun i hi => ?_⟩, fun h => by cases h⟩
      have := (hx i (hle i hi)).1
      rw [add_plain, hZ i hi] at this
      exact this

end Go.Proofs.Qxb6614698a
