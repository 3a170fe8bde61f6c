import Derived.Test.Qxb6609042aLaw
import Derived.ProofKit
import Derived.OpenShut
import Derived.ShutString
import Derived.ChangeOld
import Derived.Below
import Derived.Deep.SlicePairs
namespace Go.Proofs.Qxb6609042a
open Go.ChangeShapes Go.WideShapes Go.ChangeAt Go.RowKit
open Go.ChangeMaps (open_string shut_string)
set_option linter.unusedVariables false

theorem own : ownKnob Try.prog.godebug = none := by kernel_rfl
theorem laidOut : laidOutB Try.prog = true := by kernel_rfl

/-- A slice of structs of two strings leads to pairs of strings. -/
theorem pairs_of_arg {H : Type} {enc : TypeId × Value → H} {W : World} {a0 : Option Addr} {len0 cap0 fuel : Nat} {x : DataW H × List MemPlace}
    (hf : DataW.trod enc Try.prog W 0 (fun _ => true) true fuel 22 [.slice a0 len0 cap0] = some x) : ∃ S M, Pairs W a0 len0 S M := by
  rcases Go.Deep.open_slice_pairs Try.underlying22 Try.underlying28 (by kernel_rfl) rfl rfl (by kernel_rfl) (by kernel_rfl) hf with ⟨hcs, _⟩ | ⟨a, len, cap, m, n, V0, V1, D0, D1, P0, P1, hcs, _, hl, hm, hmm, _, hx⟩
  · cases hcs
    exact ⟨fun _ => default, fun _ => default, .inl rfl⟩
  · cases hcs
    by_cases h0 : len0 = 0
    · exact ⟨fun _ => default, fun _ => default, .inl h0⟩
    · have hle : ∀ i, i < len0 → i < m := fun i hi => by rw [hmm]; simp; omega
      have each : ∀ i, i < len0 → ∃ q : ByteArray × ByteArray, V0 i = .string q.1 ∧ V1 i = .string q.2 := by
        intro i hi
        obtain ⟨_, _, g0, g1⟩ := hx i (hle i hi)
        obtain ⟨s0, e0, _⟩ := DataW.trod_string Try.underlying9 g0
        obtain ⟨s1, e1, _⟩ := DataW.trod_string Try.underlying9 g1
        exact ⟨(s0, s1), by simpa using e0, by simpa using e1⟩
      obtain ⟨q, hq⟩ := Go.Deep.choose_lt each
      obtain ⟨b, off, spot⟩ := a
      have hspot : spot = none := by
        have := (hx 0 (hle 0 (by omega))).1
        simpa [Addr.add] using World.cell?_spot this
      subst hspot
      refine ⟨fun i => (q i).1, fun i => (q i).2, .inr ⟨b, off, rfl, fun i hi => ?_, fun i hi => ?_⟩⟩
      · have := (hx i (hle i hi)).1
        rw [add_plain, (hq i hi).1] at this
        exact this
      · have := (hx i (hle i hi)).2.1
        rw [add_plain, (hq i hi).2] at this
        exact this

set_option maxRecDepth 100000 in
theorem lifted (os : Os) (started : os.Started) (H : Type) (enc : TypeId × Value → H) :
    ReturnsInHanded {} Try.checked os 3 .any (Rows.fnRoleGivesJoinsAndGrantsWhatIsPutInSpec.pre6 enc Try.prog Try.f3 Rows.fnRoleGivesJoinsAndGrantsWhatIsPutInRow.domain false) (Rows.fnRoleGivesJoinsAndGrantsWhatIsPutInSpec.post enc Try.prog Try.f3 false true false false) := by
  refine returnsInHanded_of_change (C := Try.checked) own started (by kernel_rfl) Try.func3
    (ChangeSpec.witness6 (enc := enc) (C := Try.checked) false ⟨#[], #[.slice none 0 0, .int .i64 0, .string ⟨#[]⟩, .string ⟨#[]⟩], []⟩ 8 (by kernel_rfl) (by kernel_rfl) (by kernel_rfl) (by kernel_rfl)) ?_
  intro W base args ds gs before hval0 hW hcnd _
  have hval : ∀ (j : Nat) t v, Try.f3.params[j]? = some t → args[j]? = some v → Value.okWide Try.prog W .any base t v := hval0
  have hW' := hW
  obtain ⟨p, q, hA0, hV, rfl, hfz, hnd⟩ := hW
  have hA : DataW.TrodAll enc Try.prog W 0 (fun _ => true) true Try.f3.params.toList args.toList ds p := hA0
  rw [Try.params3] at hA hval
  obtain ⟨v0, vs0, d0, ds0, p0, q0, hargs, rfl, rfl, h0, r0⟩ := trodAll_cons hA
  obtain ⟨v1, vs1, d1, ds1, p1, q1, rfl, rfl, rfl, h1, r1⟩ := trodAll_cons r0
  obtain ⟨v2, vs2, d2, ds2, p2, q2, rfl, rfl, rfl, h2, r2⟩ := trodAll_cons r1
  obtain ⟨v3, vs3, d3, ds3, p3, q3, rfl, rfl, rfl, h3, r3⟩ := trodAll_cons r2
  obtain ⟨rfl, rfl, rfl⟩ := trodAll_nil r3
  obtain rfl : args = #[v0, v1, v2, v3] := by cases args; simp_all
  obtain ⟨rfl, rfl⟩ := trodVars_none hV
  obtain ⟨a0, len0, cap0, rfl⟩ := okWide_slice Try.underlying22 (hval 0 22 v0 rfl rfl)
  have k0 := h0
  have lt0 : ∀ x ∈ p0, x.block < W.heap.size := by obtain ⟨m, hm⟩ := k0; exact DataW.trod_lt m _ _ _ hm
  obtain ⟨S, M, w0⟩ : ∃ S M, Pairs W a0 len0 S M := by
    obtain ⟨fuel, hf⟩ := h0
    exact pairs_of_arg hf
  obtain ⟨a1, rfl, rfl, rfl, w1⟩ := open_int Try.underlying3 (hval 1 3 v1 rfl rfl) h1
  obtain ⟨a2, rfl, rfl, rfl, w2⟩ := open_string Try.underlying9 (hval 2 9 v2 rfl rfl) h2
  obtain ⟨a3, rfl, rfl, rfl, w3⟩ := open_string Try.underlying9 (hval 3 9 v3 rfl rfl) h3
  clear hA0 hval0
  refine (law_any a0 len0 cap0 a1 S M a2 a3 W w0).mono fun e W' ⟨he, bel⟩ => ?_
  subst he
  exact ⟨_, rfl, _, _, _, [], _, [], hW', trodAll_mk1 (shut_bool Try.underlying4 _), (trodAll_cons_mk (Below.trod laidOut (by kernel_rfl) (of_decide_eq_true (by kernel_rfl)) k0 bel lt0) (trodAll_cons_mk (shut_int Try.underlying3 w1) (trodAll_cons_mk (shut_string Try.underlying9 w2) (trodAll_cons_mk (shut_string Try.underlying9 w3) trodAll_mk0)))), rfl, bel.frame _, fun h => by cases h⟩

theorem over : Rows.fnRoleGivesJoinsAndGrantsWhatIsPutInRow.holds Try.pinned (OpenSpec.ofChange Rows.fnRoleGivesJoinsAndGrantsWhatIsPutInSpec) :=
  OpenClaim.holds_of_wide 3 Try.f3 rfl rfl rfl rfl rfl rfl rfl ⟨rfl, rfl, rfl, rfl, rfl⟩ rfl rfl rfl rfl rfl (by kernel_rfl) Try.func3 (by kernel_rfl)
    (of_decide_eq_true (by kernel_rfl)) (by unfold Func.isWrapper; first | (rw [if_pos (by decide +kernel)]; kernel_rfl) | (rw [if_neg (by decide +kernel)]; exact ⟨rfl, rfl⟩))
    (fun os started H enc _ => lifted os started H enc)

/-- ████ THE STATEMENT ████ -/
theorem proved : Rows.FnRoleGivesJoinsAndGrantsWhatIsPutInSaid := over
end Go.Proofs.Qxb6609042a
