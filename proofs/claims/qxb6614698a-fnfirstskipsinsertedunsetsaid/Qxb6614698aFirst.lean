import Derived.Test.Qxb6614698aParts
namespace Go.Proofs.Qxb6614698a
open Go.RowKit

/-- A variant: the int boxed where the mask's bit is up, else the nil interface. -/
def varV (s : Bool) (z : Int) : Value := if s then .iface 3 (.int .i64 z) else .nilIface
theorem varV_any (s : Bool) (z : Int) : AnyV (varV s z) := by
  cases s with
  | true => exact .inr ⟨_, _, rfl⟩
  | false => exact .inl rfl
theorem varV_isB (s : Bool) (z : Int) : isB (varV s z) = s := by cases s <;> rfl

theorem varV_form (s : Bool) (z : Int) : varV s z = .nilIface ∨ varV s z = .iface 3 (.int .i64 z) := by cases s <;> simp [varV]

def BoolsAt (w : World) (ad : Option Addr) (n : Nat) (S : Nat → Bool) : Prop := CellsAt w ad n fun i => .bool (S i)
def IntsAt (w : World) (ad : Option Addr) (n : Nat) (Z : Nat → Int) : Prop := CellsAt w ad n fun i => .int .i64 (Z i)

theorem CellsAt.get {w : World} {ad : Option Addr} {n : Nat} {V : Nat → Value} (h : CellsAt w ad n V) {i : Nat} (hi : i < n) : ∃ p off, ad = some ⟨p, off, none⟩ ∧ w.cell? ⟨p, off + i, none⟩ = some (V i) := by
  rcases h with h | ⟨p, off, e, hc⟩
  · omega
  · exact ⟨p, off, e, hc i hi⟩
theorem CellsAt.lt {w : World} {ad : Option Addr} {n : Nat} {V : Nat → Value} (h : CellsAt w ad n V) : ∀ p off, ad = some ⟨p, off, none⟩ → 0 < n → p < w.heap.size := by
  intro p off e hn
  obtain ⟨p', off', e', hc⟩ := h.get hn
  rw [e] at e'
  cases e'
  exact World.block_lt_of_cell? w _ hc
theorem CellsAt.below {w w' : World} {ad : Option Addr} {n : Nat} {V : Nat → Value} (h : CellsAt w ad n V) {B : Nat} (hb : Below B w w') (hB : w.heap.size ≤ B) : CellsAt w' ad n V := by
  have hlt := h.lt
  rcases h with h | ⟨p, off, rfl, hc⟩
  · exact .inl h
  · by_cases hn : n = 0
    · exact .inl hn
    · have hp := hlt p off rfl (by omega)
      exact .inr ⟨p, off, rfl, fun i hi => (hb.cell (p := ⟨p, off + i, none⟩) (Nat.lt_of_lt_of_le hp hB)).trans (hc i hi)⟩

set_option maxHeartbeats 1000000 in
theorem variant_any (a b : Option Addr) (n1 c1 n2 c2 i : Nat) (S : Nat → Bool) (Z : Nat → Int) (w : World) (h1 : i < n1) (h2 : i < n2) (hs : BoolsAt w a n1 S) (hz : IntsAt w b n2 Z) :
    Calls Try.prog 20 #[.slice a n1 c1, .slice b n2 c2, .int .i64 i] w fun e w' => e = .returned (varV (S i) (Z i)) ∧ w' = w := by
  obtain ⟨p, off, rfl, c⟩ := hs.get h1
  obtain ⟨q, off', rfl, d⟩ := hz.get h2
  clear hs hz
  cases hS : S i with
  | true =>
    rw [hS] at c
    go_enter Try.func20, Try.ntmps20
    go_wp2
    go_ret
    exact ⟨rfl, rfl⟩
  | false =>
    rw [hS] at c
    go_enter Try.func20, Try.ntmps20
    go_wp2
    go_ret
    exact ⟨rfl, rfl⟩

theorem info20 : (Try.prog.info? 20).map (fun i => (i.zero, i.size, i.bytes)) = some (some .nilIface, 1, 16) := by kernel_rfl

/-- What zzVariants has laid after k rounds. -/
def laidV (S : Nat → Bool) (Z : Nat → Int) (n k : Nat) : List Value := (List.range k).map (fun i => varV (S i) (Z i)) ++ List.replicate (n - k) .nilIface
theorem laidV_len (S : Nat → Bool) (Z : Nat → Int) (n k : Nat) (h : k ≤ n) : (laidV S Z n k).length = n := by simp [laidV]; omega
theorem laidV_zero (S : Nat → Bool) (Z : Nat → Int) (n : Nat) : laidV S Z n 0 = List.replicate n .nilIface := by simp [laidV]
theorem laidV_full (S : Nat → Bool) (Z : Nat → Int) (n : Nat) : laidV S Z n n = (List.range n).map fun i => varV (S i) (Z i) := by simp [laidV]
theorem laidV_at (S : Nat → Bool) (Z : Nat → Int) (n k : Nat) (h : k < n) : (laidV S Z n k)[k]? = some .nilIface := by
  unfold laidV
  rw [List.getElem?_append_right (by simp), List.getElem?_replicate]
  simp only [List.length_map, List.length_range]
  rw [if_pos (by omega)]
theorem laidV_set (S : Nat → Bool) (Z : Nat → Int) (n k : Nat) (h : k < n) : (laidV S Z n k).set k (varV (S k) (Z k)) = laidV S Z n (k + 1) := by
  unfold laidV
  rw [List.set_append_right _ _ (by simp)]
  obtain ⟨d, hd⟩ : ∃ d, n - k = d + 1 := ⟨n - k - 1, by omega⟩
  rw [hd, List.replicate_succ, show n - (k + 1) = d by omega]
  simp [List.range_succ]

set_option maxHeartbeats 2000000 in
theorem variants_core (a b : Option Addr) (n1 c1 n2 c2 n : Nat) (S : Nat → Bool) (Z : Nat → Int) (w : World) (hn : n ≤ 1048576) (hcase : (n2 < n1 ∧ n = n2) ∨ (n1 ≤ n2 ∧ n = n1)) (hs : BoolsAt w a n1 S) (hz : IntsAt w b n2 Z) :
    Calls Try.prog 18 #[.slice a n1 c1, .slice b n2 c2] w fun e w' => ∃ g, e = .returned (.slice (some ⟨g, 0, none⟩) n n) ∧
      w'.ownsRow w.heap.size 20 1 (.slice (some ⟨g, 0, none⟩) n n) n ((List.range n).map fun i => varV (S i) (Z i)) ∧ Below w.heap.size w w' := by
  obtain ⟨i0, hi0, hz0, hz1, hz2⟩ := info_parts info20
  have HS : Hid (BoolsAt w a n1 S) := hs
  have HZ : Hid (IntsAt w b n2 Z) := hz
  clear hs hz
  have hbn : i0.bytes * n ≤ 281474976710656 := by rw [hz2]; omega
  have hnm : n ≤ maxLen := by unfold maxLen; omega
  rcases hcase with ⟨hc, hnn⟩ | ⟨hc, hnn⟩
  all_goals
    subst hnn
    go_enter Try.func18, Try.ntmps18
    go_wp2_with (first | (at_make; refine wpList_make_full _ rfl _ _ 38 rfl w.heap.size 20 i0 _ 1 Try.underlying38 hi0 hz0 hz1 .i64 .i64 _ _ n rfl rfl (by omega) (by omega) hbn hnm (by simp) ?_; intro w1 hown0 hgrow))
    have hB1 : Below w.heap.size w w1 := (Below.refl _ _).grown hgrow (by simp) (by intro k h; cases h)
    have hown1 : w1.ownsRow w.heap.size 20 1 (.slice (some ⟨w.heap.size, 0, none⟩) n n) n (laidV S Z n 0) := by
      rw [laidV_zero, ← toList_madeCells_one]
      simpa [Value.cells] using hown0
    clear hgrow hown0
    go_loopw [7] (fun i wr => ∃ k : Nat, k ≤ n ∧ i = .int .i64 k ∧ wr.ownsRow w.heap.size 20 1 (.slice (some ⟨w.heap.size, 0, none⟩) n n) n (laidV S Z n k) ∧ Below w.heap.size w wr) (fun i _ => n - (intOf i).toNat)
    case atStart => exact ⟨0, Nat.zero_le _, rfl, hown1, hB1⟩
    case round =>
      clear hown1 hB1
      obtain ⟨k, hk, rfl, hown, hnx⟩ := hrel
      by_cases hlt : k < n
      · have HS' := HS.out.below hnx (Nat.le_refl _)
        have HZ' := HZ.out.below hnx (Nat.le_refl _)
        have HB : Hid _ := HS'
        have HI : Hid _ := HZ'
        clear HS' HZ'
        have c : wr.cell? ⟨w.heap.size, k, none⟩ = some .nilIface := (hown.cellAt k (by omega)).trans (laidV_at S Z n k hlt)
        have f := hown.frozenAt k
        have k0 : (0 : Int) ≤ (k : Int) := by omega
        have k1 : (k : Int) < (n : Int) := by omega
        have hset := laidV_set S Z n k hlt
        have hst := (hown.stored k (varV (S k) (Z k))).1
        rw [hset] at hst
        have HT : Hid _ := hst
        clear hset hst
        rcases varV_form (S k) (Z k) with hV | hV
        all_goals
          go_wp2_with (go_at_call 20; refine (variant_any _ _ _ _ _ _ k S Z _ (by omega) (by omega) HB.out HI.out).mono ?_; rintro e w' ⟨rfl, rfl⟩; rw [hV])
          have HT' := HT.out
          rw [hV] at HT'
          go_roundw
          case rel => exact ⟨k + 1, by omega, by go_num, HT', hnx.setCell (Nat.le_refl _) _⟩
          case measure => simp [intOf]; omega
      · obtain rfl : k = n := by omega
        go_wp2
        go_ret
        exact ⟨_, rfl, by rw [← laidV_full]; exact hown, hnx⟩

theorem cells_own {w : World} {base : Nat} {e : TypeId} {g n cap : Nat} {xs : List Value} (h : w.ownsRow base e 1 (.slice (some ⟨g, 0, none⟩) n cap) n xs) (V : Nat → Value) (hV : ∀ i, i < n → xs[i]? = some (V i)) : CellsAt w (some ⟨g, 0, none⟩) n V :=
  .inr ⟨g, 0, rfl, fun i hi => by rw [Nat.zero_add, h.cellAt i (by omega), hV i hi]⟩

theorem as3 (v : Value) (w : World) : (Instr.typeAssert (.iface 3 v) 20 3 true).run Try.prog w = .ok (.tuple #[v, .bool true]) w := by kernel_rfl
theorem as3nil (w : World) : (Instr.typeAssert .nilIface 20 3 true).run Try.prog w = .ok (.tuple #[.int .i64 0, .bool false]) w := by kernel_rfl

theorem lst_var (S : Nat → Bool) (Z : Nat → Int) (n : Nat) : lst (fun i => isB (varV (S i) (Z i))) n = lst S n := by
  congr 1
  funext i
  exact varV_isB _ _

/-- How many variants two slices of these lengths give. -/
def Min2 (n1 n2 n : Nat) : Prop := (n2 < n1 ∧ n = n2) ∨ (n1 ≤ n2 ∧ n = n1)

set_option maxHeartbeats 1000000 in
theorem zzfirst_hit (a b : Option Addr) (n1 c1 n2 c2 n k : Nat) (S : Nat → Bool) (Z : Nat → Int) (w : World) (hn : n ≤ 1048576) (hm : Min2 n1 n2 n) (hs : BoolsAt w a n1 S) (hz : IntsAt w b n2 Z) (hk : k < n) (hl : lst S n = k) (hS : S k = true) :
    Calls Try.prog 10 #[.slice a n1 c1, .slice b n2 c2] w fun e w' => e = .returned (.tuple #[.bool true, .int .i64 (Z k), .int .i64 k]) ∧ Below w.heap.size w w' := by
  have HS : Hid (BoolsAt w a n1 S) := hs
  have HZ : Hid (IntsAt w b n2 Z) := hz
  have HM : Hid (Min2 n1 n2 n) := hm
  have HL : Hid (lst (fun i => isB (varV (S i) (Z i))) n = k) := (lst_var S Z n).trans hl
  have HV : Hid (varV (S k) (Z k) = .iface 3 (.int .i64 (Z k))) := by show _ = _; rw [hS]; rfl
  clear hs hz hm hl hS
  have h3 := as3
  go_enter Try.func10, Try.ntmps10
  go_wp2_with fail
  refine (variants_core a b n1 c1 n2 c2 n S Z _ hn HM.out HS.out HZ.out).mono ?_
  rintro e w1 ⟨g, rfl, hown, hB⟩
  have HC : Hid (CellsAt w1 (some ⟨g, 0, none⟩) n fun i => varV (S i) (Z i)) := cells_own hown _ (fun i hi => by simp [hi])
  clear hown
  go_wp2_with fail
  refine (first_hit _ n n k (fun i => varV (S i) (Z i)) _ (by omega) (fun i _ => varV_any _ _) HC.out hk HL.out).mono ?_
  rintro e w2 ⟨rfl, hw⟩
  obtain rfl : w1 = w2 := hw.symm
  clear hw HC
  dsimp only
  rw [HV.out]
  go_wp2_with fail
  go_ret3
  exact ⟨rfl, hB⟩

set_option maxHeartbeats 1000000 in
theorem zzfirst_miss (a b : Option Addr) (n1 c1 n2 c2 n : Nat) (S : Nat → Bool) (Z : Nat → Int) (w : World) (hn : n ≤ 1048576) (hm : Min2 n1 n2 n) (hs : BoolsAt w a n1 S) (hz : IntsAt w b n2 Z) (hl : lst S n = -1) :
    Calls Try.prog 10 #[.slice a n1 c1, .slice b n2 c2] w fun e w' => e = .returned (.tuple #[.bool false, .int .i64 0, .int .i64 (-1)]) ∧ Below w.heap.size w w' := by
  have HS : Hid (BoolsAt w a n1 S) := hs
  have HZ : Hid (IntsAt w b n2 Z) := hz
  have HM : Hid (Min2 n1 n2 n) := hm
  have HL : Hid (lst (fun i => isB (varV (S i) (Z i))) n = -1) := (lst_var S Z n).trans hl
  clear hs hz hm hl
  have h3 := as3nil
  go_enter Try.func10, Try.ntmps10
  go_wp2_with fail
  refine (variants_core a b n1 c1 n2 c2 n S Z _ hn HM.out HS.out HZ.out).mono ?_
  rintro e w1 ⟨g, rfl, hown, hB⟩
  have HC : Hid (CellsAt w1 (some ⟨g, 0, none⟩) n fun i => varV (S i) (Z i)) := cells_own hown _ (fun i hi => by simp [hi])
  clear hown
  go_wp2_with fail
  refine (first_miss _ n n (fun i => varV (S i) (Z i)) _ (by omega) (fun i _ => varV_any _ _) HC.out HL.out).mono ?_
  rintro e w2 ⟨rfl, hw⟩
  obtain rfl : w1 = w2 := hw.symm
  clear hw HC
  go_wp2_with fail
  go_ret3
  exact ⟨rfl, hB⟩

set_option maxHeartbeats 1000000 in
theorem isSetAt_any (a b : Option Addr) (n1 c1 n2 c2 i : Nat) (S : Nat → Bool) (Z : Nat → Int) (w : World) (h1 : i < n1) (h2 : i < n2) (hs : BoolsAt w a n1 S) (hz : IntsAt w b n2 Z) :
    Calls Try.prog 16 #[.slice a n1 c1, .slice b n2 c2, .int .i64 i] w fun e w' => e = .returned (.bool (S i)) ∧ w' = w := by
  have HS : Hid (BoolsAt w a n1 S) := hs
  have HZ : Hid (IntsAt w b n2 Z) := hz
  clear hs hz
  go_enter Try.func16, Try.ntmps16
  go_wp2_with fail
  refine (variant_any a b n1 c1 n2 c2 i S Z _ h1 h2 HS.out HZ.out).mono ?_
  rintro e w0 ⟨rfl, hw⟩
  obtain rfl : w = w0 := hw.symm
  clear hw
  go_wp2_with fail
  refine (isSet_any _ (varV_any _ _) _).mono ?_
  rintro e w0 ⟨rfl, hw⟩
  obtain rfl : w = w0 := hw.symm
  clear hw
  rw [varV_isB]
  go_wp2_with fail
  go_ret
  exact ⟨rfl, rfl⟩

end Go.Proofs.Qxb6614698a
