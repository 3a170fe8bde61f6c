import Derived.Test.Qxb6614698aFirst
import Derived.Laws.CopyOwn
import Derived.Deep.DeepCutAuto
import Derived.Deep.QuietTactic
import Derived.BigQuiet
import Derived.Deep.RegionHeld3
namespace Go.Proofs.Qxb6614698a
open Go.RowKit

theorem info4 : (Try.prog.info? 4).map (fun i => (i.zero, i.size, i.bytes)) = some (some (.bool false), 1, 1) := by kernel_rfl
theorem info3 : (Try.prog.info? 3).map (fun i => (i.zero, i.size, i.bytes)) = some (some (.int .i64 0), 1, 8) := by kernel_rfl
theorem size4 : (Try.prog.info? 4).map (·.size) = some 1 := by kernel_rfl
theorem size3 : (Try.prog.info? 3).map (·.size) = some 1 := by kernel_rfl

/-- It ends with a bool. -/
def EndsAny (e : Ending) : Prop := ∃ b, e = .returned (.bool b)

set_option maxHeartbeats 1000000 in
theorem bytes7 (a b : Option Addr) (n1 c1 n2 c2 : Nat) (k : Int) (w : World) : Calls Try.prog 7 #[.slice a n1 c1, .slice b n2 c2, .int .i64 k] w fun e w' => EndsAny e ∧ w' = w := by
  by_cases h1 : n1 ≤ 1048576
  · by_cases h2 : n2 ≤ 1048576
    · go_enter Try.func7, Try.ntmps7
      go_wp2
      all_goals (go_ret; exact ⟨⟨_, rfl⟩, rfl⟩)
    · go_enter Try.func7, Try.ntmps7
      go_wp2
      all_goals (go_ret; exact ⟨⟨_, rfl⟩, rfl⟩)
  · go_enter Try.func7, Try.ntmps7
    go_wp2
    all_goals (go_ret; exact ⟨⟨_, rfl⟩, rfl⟩)

set_option maxHeartbeats 1000000 in
theorem bytes11 (a b : Option Addr) (n1 c1 n2 c2 : Nat) (k x : Int) (w : World) : Calls Try.prog 11 #[.slice a n1 c1, .slice b n2 c2, .int .i64 k, .int .i64 x] w fun e w' => EndsAny e ∧ w' = w := by
  by_cases h1 : n1 ≤ 1048576
  · by_cases h2 : n2 ≤ 1048576
    · go_enter Try.func11, Try.ntmps11
      go_wp2
      all_goals (go_ret; exact ⟨⟨_, rfl⟩, rfl⟩)
    · go_enter Try.func11, Try.ntmps11
      go_wp2
      all_goals (go_ret; exact ⟨⟨_, rfl⟩, rfl⟩)
  · go_enter Try.func11, Try.ntmps11
    go_wp2
    all_goals (go_ret; exact ⟨⟨_, rfl⟩, rfl⟩)

set_option maxHeartbeats 1000000 in
theorem bytes15 (a b : Option Addr) (n1 c1 n2 c2 : Nat) (w : World) : Calls Try.prog 15 #[.slice a n1 c1, .slice b n2 c2] w fun e w' => EndsAny e ∧ w' = w := by
  by_cases h1 : n1 ≤ 1048576
  · by_cases h2 : n2 ≤ 1048576
    · go_enter Try.func15, Try.ntmps15
      go_wp2
      all_goals (go_ret; exact ⟨⟨_, rfl⟩, rfl⟩)
    · go_enter Try.func15, Try.ntmps15
      go_wp2
      all_goals (go_ret; exact ⟨⟨_, rfl⟩, rfl⟩)
  · go_enter Try.func15, Try.ntmps15
    go_wp2
    all_goals (go_ret; exact ⟨⟨_, rfl⟩, rfl⟩)

set_option maxHeartbeats 1000000 in
theorem minLen_any (a b : Option Addr) (n1 c1 n2 c2 n : Nat) (w : World) (h : Min2 n1 n2 n) : Calls Try.prog 8 #[.slice a n1 c1, .slice b n2 c2] w fun e w' => e = .returned (.int .i64 n) ∧ w' = w := by
  rcases h with ⟨h, rfl⟩ | ⟨h, rfl⟩
  · go_enter Try.func8, Try.ntmps8
    go_wp2
    go_ret
    exact ⟨rfl, rfl⟩
  · go_enter Try.func8, Try.ntmps8
    go_wp2
    go_ret
    exact ⟨rfl, rfl⟩

set_option maxHeartbeats 1000000 in
theorem least_any (a : Option Addr) (n1 c1 n : Nat) (S : Nat → Bool) (w : World) (hn : n ≤ 1048576) (hle : n ≤ n1) (hs : BoolsAt w a n1 S) :
    Calls Try.prog 9 #[.slice a n1 c1, .int .i64 n] w fun e w' => e = .returned (.int .i64 (lst S n)) ∧ w' = w := by
  have HS : Hid (BoolsAt w a n1 S) := hs
  clear hs
  go_enter Try.func9, Try.ntmps9
  go_wp2
  go_loop [5] (fun i => ∃ k : Nat, k ≤ n ∧ i = .int .i64 k ∧ ∀ j, j < k → S j = false) (fun i => n - (intOf i).toNat)
  case atStart => exact ⟨0, Nat.zero_le _, rfl, fun j hj => absurd hj (Nat.not_lt_zero _)⟩
  case round =>
    obtain ⟨k, hk, rfl, hno⟩ := hrel
    have HN : Hid (∀ j, j < k → S j = false) := hno
    clear hno
    by_cases hlt : k < n
    · obtain ⟨p, off, rfl, c⟩ := HS.out.get (show k < n1 by omega)
      have k0 : (0 : Int) ≤ (k : Int) := by omega
      have k1 : (k : Int) < (n1 : Int) := by omega
      clear HS
      cases hf : S k with
      | true =>
        rw [hf] at c
        have HF : Hid (S k = true) := hf
        clear hf
        go_wp2
        go_ret
        exact ⟨ret_int (lst_hit hlt HF.out HN.out).symm, rfl⟩
      | false =>
        rw [hf] at c
        have HF : Hid (S k = false) := hf
        clear hf
        go_wp2
        go_round
        case rel => exact ⟨k + 1, by omega, by go_num, no_succ HN.out HF.out⟩
        case measure => simp [intOf]; omega
    · go_wp2
      go_ret
      have hkn : k = n := by omega
      exact ⟨ret_int (lst_miss (hkn ▸ HN.out)).symm, rfl⟩

theorem row_of_own {w : World} {base : Nat} {e : TypeId} {g n : Nat} {xs : List Value} (h : w.ownsRow base e 1 (.slice (some ⟨g, 0, none⟩) n n) n xs) : w.heap[g]? = some (.cells xs.toArray e (0, 0)) := by
  rcases h.2 with ⟨h', _⟩ | ⟨g', cap', cur, h', _, hg, _, _, hs, ht⟩
  · cases h'
  · cases h'
    rw [hg]
    have : cur.toList = xs := by
      rw [← ht, List.take_of_length_le]
      simp [hs]
    rw [← this]

theorem made_row {w : World} {base : Nat} {e : TypeId} {g n : Nat} {z : Value} (h : w.ownsRow base e 1 (.slice (some ⟨g, 0, none⟩) n n) n (madeCells #[z] (n * 1)).toList) : w.heap[g]? = some (.cells (List.replicate n z).toArray e (0, 0)) := by
  have := row_of_own h
  rwa [Nat.mul_one, toList_madeCells_one] at this

theorem copy_one (n : Nat) (S : Nat → Bool) : ∀ v ∈ (List.range n).map (fun i => Value.bool (S i)), v.oneCell' = true := by
  intro v hv
  obtain ⟨i, _, rfl⟩ := List.mem_map.1 hv
  rfl
theorem copy_one3 (n : Nat) (Z : Nat → Int) : ∀ v ∈ (List.range n).map (fun i => Value.int .i64 (Z i)), v.oneCell' = true := by
  intro v hv
  obtain ⟨i, _, rfl⟩ := List.mem_map.1 hv
  rfl
theorem copy_pos {w : World} {x : Addr} {g n : Nat} {V : Nat → Value} (h : CellsAt w (some x) n V) : 0 < ((List.range n).map V).length → some (⟨g, 0, none⟩ : Addr) = some ⟨g, 0, none⟩ ∧ ∃ ad, some x = some ad ∧ ∀ j v, ((List.range n).map V)[j]? = some v → w.cell? (ad.add j) = some v := by
  intro hl
  refine ⟨rfl, x, rfl, fun j v hj => ?_⟩
  rw [List.getElem?_map] at hj
  have hjn : j < n := by
    rcases Nat.lt_or_ge j n with h | h
    · exact h
    · rw [List.getElem?_eq_none (by simpa using h)] at hj; cases hj
  rw [List.getElem?_range hjn] at hj
  cases hj
  obtain ⟨p, off, e, hc⟩ := h.get hjn
  cases e
  rw [← hc]
  congr 1
  unfold Addr.add
  split <;> simp_all

/-- A whole slice copied into a row that the call has just made. -/
theorem copy_run {w w0 : World} {x : Addr} {g n c B : Nat} {z : Value} {V : Nat → Value} (dT ty elem : TypeId) (hu : Try.prog.underlying dT = some (.slice elem)) (hsz : (Try.prog.info? elem).map (·.size) = some 1)
    (hg : w.heap[g]? = some (.cells (List.replicate n z).toArray elem (0, 0))) (hc : CellsAt w (some x) n V) (h1 : ∀ v ∈ (List.range n).map V, v.oneCell' = true) (hb : Below B w0 w) (hBg : B ≤ g) :
    ∃ w2, (Builtin.copy_ #[dT, dT] ty #[.slice (some ⟨g, 0, none⟩) n n, .slice (some x) n c]).run Try.prog w = .ok (.int .i64 n) w2 ∧ CellsAt w2 (some ⟨g, 0, none⟩) n V ∧ Below B w0 w2 := by
  by_cases h0 : n = 0
  · subst h0
    exact ⟨w, run_copy_none (P := Try.prog) w dT dT ty elem _ _ 0 0 0 c hu hsz rfl, .inl rfl, hb⟩
  · have hp := (copy_pos (g := g) hc (by simp; omega)).2
    obtain ⟨ad, e, hsrc⟩ := hp
    cases e
    have hr := run_copy_row (P := Try.prog) w dT dT ty elem g 0 n n x n c _ elem ((List.range n).map V) hu hsz hg (by simp) hsrc (by simp) h1
    have hl : ((List.range n).map V).length = n := by simp
    rw [hl] at hr
    refine ⟨_, hr, ?_, below_setRow hb hBg _⟩
    refine .inr ⟨g, 0, rfl, fun i hi => ?_⟩
    rw [Nat.zero_add i, cell_setRow_same w g i _ _ elem (0, 0) hg]
    simp [hi]

end Go.Proofs.Qxb6614698a
