import Derived.Test.Qxb6614698aSplit
import Derived.Deep.AppendLies
namespace Go.Proofs.Qxb6614698a
open Go.RowKit

/-- The mask with an unset bit put in at j; the values with x put in at j. -/
def insS (S : Nat → Bool) (j i : Nat) : Bool := if i < j then S i else if i = j then false else S (i - 1)
def insZ (Z : Nat → Int) (j : Nat) (x : Int) (i : Nat) : Int := if i < j then Z i else if i = j then x else Z (i - 1)
theorem insS_lt {S : Nat → Bool} {j i : Nat} (h : i < j) : insS S j i = S i := by simp [insS, h]
theorem insS_eq (S : Nat → Bool) (j : Nat) : insS S j j = false := by simp [insS]
theorem insS_gt {S : Nat → Bool} {j i : Nat} (h : j ≤ i) : insS S j (i + 1) = S i := by
  unfold insS; rw [if_neg (by omega), if_neg (by omega), Nat.add_sub_cancel]
theorem insZ_lt {Z : Nat → Int} {j i : Nat} {x : Int} (h : i < j) : insZ Z j x i = Z i := by simp [insZ, h]
theorem insZ_eq (Z : Nat → Int) (j : Nat) (x : Int) : insZ Z j x j = x := by simp [insZ]
theorem insZ_gt {Z : Nat → Int} {j i : Nat} {x : Int} (h : j ≤ i) : insZ Z j x (i + 1) = Z i := by
  unfold insZ; rw [if_neg (by omega), if_neg (by omega), Nat.add_sub_cancel]
/-- The cells of the two new rows at length L. -/
def rowS (S : Nat → Bool) (j L : Nat) : List Value := (List.range L).map fun i => .bool (insS S j i)
def rowZ (Z : Nat → Int) (j : Nat) (x : Int) (L : Nat) : List Value := (List.range L).map fun i => .int .i64 (insZ Z j x i)
theorem rowS_succ (S : Nat → Bool) (j L : Nat) {b : Bool} (h : insS S j L = b) : rowS S j (L + 1) = rowS S j L ++ [.bool b] := by simp [rowS, List.range_succ, h]
theorem rowZ_succ (Z : Nat → Int) (j : Nat) (x : Int) (L : Nat) {z : Int} (h : insZ Z j x L = z) : rowZ Z j x (L + 1) = rowZ Z j x L ++ [.int .i64 z] := by simp [rowZ, List.range_succ, h]
theorem lst_ins_miss {S : Nat → Bool} {n j : Nat} (hj : j ≤ n) (h : ∀ i, i < n → S i = false) : lst (insS S j) (n + 1) = -1 := by
  refine lst_miss fun i hi => ?_
  unfold insS
  split
  · exact h i (by omega)
  · split
    · rfl
    · exact h (i - 1) (by omega)
theorem lst_ins_before {S : Nat → Bool} {n j m : Nat} (hm : m < n) (hmj : m < j) (hS : S m = true) (h : ∀ i, i < m → S i = false) : lst (insS S j) (n + 1) = m :=
  lst_hit (by omega) (by rw [insS_lt hmj]; exact hS) (fun i hi => by rw [insS_lt (by omega)]; exact h i hi)
theorem lst_ins_behind {S : Nat → Bool} {n j m : Nat} (hm : m < n) (hmj : j ≤ m) (hS : S m = true) (h : ∀ i, i < m → S i = false) : lst (insS S j) (n + 1) = ((m + 1 : Nat) : Int) := by
  refine lst_hit (by omega) (by rw [insS_gt hmj]; exact hS) fun i hi => ?_
  unfold insS
  split
  · exact h i (by omega)
  · split
    · rfl
    · exact h (i - 1) (by omega)

/-- The two rows that the call builds, and what it has not touched. -/
def Rows2 (wc wr : World) (g1 g2 n L : Nat) (S : Nat → Bool) (Z : Nat → Int) (j : Nat) (x : Int) : Prop :=
  wr.ownsRow wc.heap.size 4 1 (.slice (some ⟨g1, 0, none⟩) L (n + 1)) L (rowS S j L) ∧ wr.ownsRow wc.heap.size 3 1 (.slice (some ⟨g2, 0, none⟩) L (n + 1)) L (rowZ Z j x L) ∧ Below wc.heap.size wc wr

theorem own_lt {w : World} {base : Nat} {e : TypeId} {size g n cap : Nat} {xs : List Value} (h : w.ownsRow base e size (.slice (some ⟨g, 0, none⟩) n cap) n xs) : base ≤ g ∧ g < w.heap.size := by
  rcases h.2 with ⟨h, _⟩ | ⟨g', cap', cur, hv, hb, hg, _⟩
  · cases h
  · cases hv
    rcases Nat.lt_or_ge g w.heap.size with hlt | hge
    · exact ⟨hb, hlt⟩
    · rw [Array.getElem?_eq_none hge] at hg; cases hg

theorem Rows2.second {wc wr W1 : World} {g1 g2 n L : Nat} {S : Nat → Bool} {Z : Nat → Int} {j : Nat} {x : Int} {o : Obj} (h : Rows2 wc wr g1 g2 n L S Z j x) (hne : g2 ≠ g1) (grow : (wr.alloc o).grownBy W1 (some g1)) :
    W1.ownsRow wc.heap.size 3 1 (.slice (some ⟨g2, 0, none⟩) L (n + 1)) L (rowZ Z j x L) :=
  (h.2.1.alloc o).kept grow (.inr (by simp [Value.ownBlock, hne]))

theorem Rows2.step {wc wr W1 W2 : World} {g1 g2 n L : Nat} {S : Nat → Bool} {Z : Nat → Int} {j : Nat} {x : Int} {o1 o2 : Obj} {b : Bool} {z : Int} (h : Rows2 wc wr g1 g2 n L S Z j x) (hne : g2 ≠ g1)
    (own1 : W1.ownsRow wc.heap.size 4 1 (.slice (some ⟨g1, 0, none⟩) (L + 1) (n + 1)) (L + 1) (rowS S j L ++ [.bool b])) (grow1 : (wr.alloc o1).grownBy W1 (some g1))
    (own2 : W2.ownsRow wc.heap.size 3 1 (.slice (some ⟨g2, 0, none⟩) (L + 1) (n + 1)) (L + 1) (rowZ Z j x L ++ [.int .i64 z])) (grow2 : (W1.alloc o2).grownBy W2 (some g2))
    (hb : insS S j L = b) (hz : insZ Z j x L = z) : Rows2 wc W2 g1 g2 n (L + 1) S Z j x := by
  have hb1 := (own_lt h.1).1
  have hb2 := (own_lt h.2.1).1
  have hs0 := h.2.2.size
  refine ⟨?_, ?_, ?_⟩
  · rw [rowS_succ S j L hb]
    exact (own1.alloc o2).kept grow2 (.inr (by simp [Value.ownBlock]; omega))
  · rw [rowZ_succ Z j x L hz]; exact own2
  · have s1 : Below wc.heap.size wc W1 := (h.2.2.alloc hs0 o1).grown grow1 (by simp; omega) (by intro k hk; cases hk; exact hb1)
    exact (s1.alloc s1.size o2).grown grow2 (by have := s1.size; simp; omega) (by intro k hk; cases hk; exact hb2)

theorem Rows2.cellB {wc wr W1 : World} {g1 g2 n L n2 p2 o2 t : Nat} {S : Nat → Bool} {Z : Nat → Int} {j : Nat} {x : Int} {o : Obj} (h : Rows2 wc wr g1 g2 n L S Z j x) (grow : (wr.alloc o).grownBy W1 (some g1)) (hz : IntsAt wc (some ⟨p2, o2, none⟩) n2 Z) (ht : t < n2) :
    W1.cell? ⟨p2, o2 + t, none⟩ = some (.int .i64 (Z t)) := by
  have hb1 := (own_lt h.1).1
  have hs0 := h.2.2.size
  have s1 : Below wc.heap.size wc W1 := (h.2.2.alloc hs0 o).grown grow (by simp; omega) (by intro k hk; cases hk; exact hb1)
  obtain ⟨p, off, e, c⟩ := (hz.below s1 (Nat.le_refl _)).get ht
  cases e
  exact c

theorem one_news {w : World} {v : Value} {t : TypeId} : ∀ i u, ([v] : List Value)[i]? = some u → (w.alloc (.cells #[v] t)).cell? ((⟨w.heap.size, 0, none⟩ : Addr).add i) = some u :=
  World.news_of_block (cs := #[v]) (t := t) (fr := (0, 0)) (heap_alloc_new w _)

set_option maxRecDepth 100000 in
set_option maxHeartbeats 4000000 in
theorem skip_any (a b : Option Addr) (n1 c1 n2 c2 : Nat) (p x : Int) (S : Nat → Bool) (Z : Nat → Int) (w : World) (hs : BoolsAt w a n1 S) (hz : IntsAt w b n2 Z) (ha : a = none → n1 = 0 ∧ c1 = 0) (hb : b = none → n2 = 0 ∧ c2 = 0) :
    Calls Try.prog 4 #[.slice a n1 c1, .slice b n2 c2, .int .i64 p, .int .i64 x] w fun e w' => e = .returned (.bool true) ∧ Below w.heap.size w w' := by
  have HS : Hid (BoolsAt w a n1 S) := hs
  have HZ : Hid (IntsAt w b n2 Z) := hz
  clear hs hz
  obtain ⟨i4, hi4, hz4, hs4, hb4⟩ := info_parts info4
  obtain ⟨i3, hi3, hz3, hs3, hb3⟩ := info_parts info3
  have hq22 := fun (w : World) (a : Option Addr) (n c : Nat) => run_neq_slice_nil_any (P := Try.prog) w 22 4 a n c 0 0 Try.underlying22
  have hq23 := fun (w : World) (a : Option Addr) (n c : Nat) => run_neq_slice_nil_any (P := Try.prog) w 23 3 a n c 0 0 Try.underlying23
  go_enter Try.func4, Try.ntmps4
  go_wp2_with fail
  refine (bytes11 a b n1 c1 n2 c2 p x _).mono ?_
  rintro e w0 ⟨⟨bb, rfl⟩, hw⟩
  obtain rfl : w = w0 := hw.symm
  clear hw
  cases bb with
  | false =>
    go_wp2_with fail
    go_ret
    exact ⟨rfl, Below.refl _ _⟩
  | true =>
  by_cases h1 : n1 ≤ 65536
  case neg =>
    go_wp2_with fail
    go_ret
    exact ⟨rfl, Below.refl _ _⟩
  by_cases h2 : n2 ≤ 65536
  case neg =>
    go_wp2_with fail
    go_ret
    exact ⟨rfl, Below.refl _ _⟩
  go_upto_if 39 with fail
  go_cut [0] (fun v wc => Hid (∃ a', v = .slice a' n1 n1 ∧ BoolsAt wc a' n1 S ∧ Below w.heap.size w wc))
  case first =>
    cases a with
    | none =>
      obtain ⟨rfl, rfl⟩ := ha rfl
      clear ha
      go_wp2_with fail
      go_meet
      case rel => exact ⟨none, rfl, HS.out, Below.refl _ _⟩
    | some xa =>
      have hbn : i4.bytes * n1 ≤ 281474976710656 := by rw [hb4]; omega
      have hnm : n1 ≤ maxLen := by unfold maxLen; omega
      go_wp2_with (first
        | (at_make; refine wpList_make_full _ rfl _ _ 22 rfl w.heap.size 4 i4 _ 1 Try.underlying22 hi4 hz4 hs4 .i64 .i64 _ _ n1 rfl rfl (by omega) (by omega) hbn hnm (by simp) ?_; intro w1 hown0 hgrow; have HG1 : Hid (w1.heap[w.heap.size]? = some (.cells (List.replicate n1 (.bool false)).toArray 4 (0, 0))) := made_row (z := .bool false) hown0; have HB1 : Hid (Below w.heap.size w w1) := (Below.refl _ _).grown hgrow (by simp) (by intro k h; cases h); have HS1 : Hid (CellsAt w1 (some xa) n1 fun i => .bool (S i)) := HS.out.below HB1.out (Nat.le_refl _); clear hown0 hgrow))
      obtain ⟨w2, hrun, hc2, hB2⟩ := copy_run (c := c1) 22 3 4 Try.underlying22 size4 HG1.out HS1.out (copy_one n1 S) HB1.out (Nat.le_refl _)
      have HC2 : Hid _ := hc2
      have HB2 : Hid _ := hB2
      clear hc2 hB2 HG1 HB1 HS1
      rw [hrun]
      clear hrun
      go_wp2_with fail
      go_meet
      case rel => exact ⟨_, rfl, HC2.out, HB2.out⟩
  case rest =>
    obtain ⟨a1, rfl, hs1, hB1⟩ := hcut.out
    have HZ1 : Hid (IntsAt wc b n2 Z) := HZ.out.below hB1 (Nat.le_refl _)
    have HS1 : Hid (BoolsAt wc a1 n1 S) := hs1
    have HB1 : Hid (Below w.heap.size w wc) := hB1
    clear hcut hs1 hB1 HZ HS ha
    go_upto_if 48 with fail
    go_cut [1] (fun v wd => Hid (∃ b', v = .slice b' n2 n2 ∧ IntsAt wd b' n2 Z ∧ BoolsAt wd a1 n1 S ∧ Below w.heap.size w wd))
    case first =>
      cases b with
      | none =>
        obtain ⟨rfl, rfl⟩ := hb rfl
        clear hb
        go_wp2_with fail
        go_meet
        case rel => exact ⟨none, rfl, HZ1.out, HS1.out, HB1.out⟩
      | some xa =>
        have hbn : i3.bytes * n2 ≤ 281474976710656 := by rw [hb3]; omega
        have hnm : n2 ≤ maxLen := by unfold maxLen; omega
        go_wp2_with (first
          | (at_make; refine wpList_make_full _ rfl _ _ 23 rfl wc.heap.size 3 i3 _ 1 Try.underlying23 hi3 hz3 hs3 .i64 .i64 _ _ n2 rfl rfl (by omega) (by omega) hbn hnm (by simp) ?_; intro w1 hown0 hgrow; have HG1 : Hid (w1.heap[wc.heap.size]? = some (.cells (List.replicate n2 (.int .i64 0)).toArray 3 (0, 0))) := made_row (z := .int .i64 0) hown0; have HB2 : Hid (Below wc.heap.size wc w1) := (Below.refl _ _).grown hgrow (by simp) (by intro k h; cases h); have HZ2 : Hid (CellsAt w1 (some xa) n2 fun i => .int .i64 (Z i)) := HZ1.out.below HB2.out (Nat.le_refl _); clear hown0 hgrow))
        obtain ⟨w2, hrun, hc2, hB2⟩ := copy_run (c := c2) 23 3 3 Try.underlying23 size3 HG1.out HZ2.out (copy_one3 n2 Z) HB2.out (Nat.le_refl _)
        have HC2 : Hid _ := hc2
        have HS2 : Hid (BoolsAt w2 a1 n1 S) := HS1.out.below hB2 (Nat.le_refl _)
        have HB3 : Hid (Below w.heap.size w w2) := HB1.out.trans (hB2.mono HB1.out.size)
        clear hc2 hB2 HG1 HB2 HZ2
        rw [hrun]
        clear hrun
        go_wp2_with fail
        go_meet
        case rel => exact ⟨_, rfl, HC2.out, HS2.out, HB3.out⟩
    case rest =>
      obtain ⟨b1, rfl, hz2, hs2, hB2⟩ := hcut.out
      have HZ2 : Hid (IntsAt wc b1 n2 Z) := hz2
      have HS2 : Hid (BoolsAt wc a1 n1 S) := hs2
      have HB2 : Hid (Below w.heap.size w wc) := hB2
      clear hcut hz2 hs2 hB2 HZ1 HS1 HB1 hb hq22 hq23
      obtain ⟨n, hmin⟩ := min2 n1 n2
      have HM : Hid (Min2 n1 n2 n) := hmin
      have hn1 : n ≤ n1 := by rcases hmin with ⟨_, rfl⟩ | ⟨_, rfl⟩ <;> omega
      have hn2 : n ≤ n2 := by rcases hmin with ⟨_, rfl⟩ | ⟨_, rfl⟩ <;> omega
      clear hmin
      go_wp2_with fail
      refine (minLen_any a1 b1 n1 n1 n2 n2 n _ HM.out).mono ?_
      rintro e w3 ⟨rfl, hw⟩
      obtain rfl : wc = w3 := hw.symm
      clear hw
      by_cases hk : 0 ≤ p ∧ p ≤ n
      case neg =>
        by_cases hk0 : p < 0
        · go_wp2_with fail
          go_ret
          exact ⟨rfl, HB2.out⟩
        · have hk1 : (n : Int) < p := by omega
          go_wp2_with fail
          go_ret
          exact ⟨rfl, HB2.out⟩
      obtain ⟨j, rfl⟩ := Int.eq_ofNat_of_zero_le hk.1
      have hj : j ≤ n := by omega
      clear hk
      have hj0 : (0 : Int) ≤ (j : Int) := by omega
      have hjn : (j : Int) ≤ (n : Int) := by omega
      have hb4n : i4.bytes * (n + 1) ≤ 281474976710656 := by rw [hb4]; omega
      have hb3n : i3.bytes * (n + 1) ≤ 281474976710656 := by rw [hb3]; omega
      have hnm : n + 1 ≤ maxLen := by unfold maxLen; omega
      go_wp2_with (first
        | (at_make; refine wpList_make_own _ rfl _ _ 22 rfl wc.heap.size 4 i4 _ 1 Try.underlying22 hi4 hz4 hs4 .i64 .i64 _ (n + 1) rfl rfl (by omega) hb4n hnm (by simp) ?_; intro w1 hown1 hgrow1)
        | (at_make; refine wpList_make_own _ rfl _ _ 23 rfl wc.heap.size 3 i3 _ 1 Try.underlying23 hi3 hz3 hs3 .i64 .i64 _ (n + 1) rfl rfl (by omega) hb3n hnm (by exact hgrow1.size) ?_; intro w2 hown2 hgrow2))
      have hg12 := (own_lt hown1).2
      have HR : Hid (Rows2 wc w2 wc.heap.size w1.heap.size n 0 S Z j x) := by
        refine ⟨?_, by simpa [rowZ] using hown2, ?_⟩
        · have := hown1.kept hgrow2 (.inr (by simp [Value.ownBlock]))
          simpa [rowS] using this
        · exact ((Below.refl _ _).grown hgrow1 (Nat.le_refl _) (by intro k hk; cases hk)).grown hgrow2 hgrow1.size (by intro k hk; cases hk)
      clear hown1 hgrow1 hown2 hgrow2
      have hne : w1.heap.size ≠ wc.heap.size := by omega
      clear hg12
      generalize w1.heap.size = g2 at *
      have HNE : Hid (g2 ≠ wc.heap.size) := hne
      clear hne
      go_loopw [12, 13, 14] (fun v z i wr => ∃ t : Nat, t ≤ j ∧ i = .int .i64 t ∧ v = .slice (some ⟨wc.heap.size, 0, none⟩) t (n + 1) ∧ z = .slice (some ⟨g2, 0, none⟩) t (n + 1) ∧ Hid (Rows2 wc wr wc.heap.size g2 n t S Z j x)) (fun _ _ i _ => j - (intOf i).toNat)
      case atStart => exact ⟨0, Nat.zero_le _, rfl, rfl, rfl, HR.out⟩
      case round =>
        clear HR
        obtain ⟨t, ht, rfl, rfl, rfl, HR⟩ := hrel
        by_cases hlt : t < j
        · obtain ⟨p1, o1, ea, ca⟩ := (HS2.out.below HR.out.2.2 (Nat.le_refl _)).get (show t < n1 by omega)
          obtain ⟨p2, o2, eb, cb⟩ := (HZ2.out.below HR.out.2.2 (Nat.le_refl _)).get (show t < n2 by omega)
          subst ea
          subst eb
          have ht0 : (0 : Int) ≤ (t : Int) := by omega
          have ht1 : (t : Int) < (n1 : Int) := by omega
          have ht2 : (t : Int) < (n2 : Int) := by omega
          have bA := World.block_lt_of_cell? wr _ ca
          have bB := World.block_lt_of_cell? wr _ cb
          go_wp2_with (first
            | (at_builtin; refine wpList_append_fits _ rfl (.tmp 77) (.tmp 82) 22 rfl wc.heap.size 4 i4 1 Try.underlying22 hi4 hs4 wc.heap.size t (n + 1) (rowS S j t) rfl (HR.out.1.alloc _) ⟨wr.heap.size, 0, none⟩ 1 1 [.bool (S t)] rfl rfl one_news (by simp [Value.oneCell']) (by omega) ?_; intro W1 own1 grow1; have cb1 := HR.out.cellB grow1 HZ2.out (show t < n2 by omega))
            | (at_builtin; refine wpList_append_fits _ rfl (.tmp 84) (.tmp 89) 23 rfl wc.heap.size 3 i3 1 Try.underlying23 hi3 hs3 g2 t (n + 1) (rowZ Z j x t) rfl ((HR.out.second HNE.out grow1).alloc _) ⟨W1.heap.size, 0, none⟩ 1 1 [.int .i64 (Z t)] rfl rfl one_news (by simp [Value.oneCell']) (by omega) ?_; intro W2 own2 grow2))
          have HR' : Hid (Rows2 wc W2 wc.heap.size g2 n (t + 1) S Z j x) := HR.out.step HNE.out own1 grow1 own2 grow2 (insS_lt hlt) (insZ_lt hlt)
          clear own1 grow1 own2 grow2 HR cb1 ca cb
          go_roundw
          case rel => exact ⟨t + 1, by omega, by go_num, rfl, rfl, HR'.out⟩
          case measure => simp [intOf]; omega
        · obtain rfl : t = j := by omega
          go_wp2_with (first
            | (at_builtin; refine wpList_append_fits _ rfl (.tmp 91) (.tmp 92) 22 rfl wc.heap.size 4 i4 1 Try.underlying22 hi4 hs4 wc.heap.size t (n + 1) (rowS S t t) rfl (HR.out.1.alloc _) ⟨wr.heap.size, 0, none⟩ 1 1 [.bool false] rfl rfl one_news (by simp [Value.oneCell']) (by omega) ?_; intro W1 own1 grow1)
            | (at_builtin; refine wpList_append_fits _ rfl (.tmp 94) (.tmp 96) 23 rfl wc.heap.size 3 i3 1 Try.underlying23 hi3 hs3 g2 t (n + 1) (rowZ Z t x t) rfl ((HR.out.second HNE.out grow1).alloc _) ⟨W1.heap.size, 0, none⟩ 1 1 [.int .i64 x] rfl rfl one_news (by simp [Value.oneCell']) (by omega) ?_; intro W2 own2 grow2))
          have HR' : Hid (Rows2 wc W2 wc.heap.size g2 n (t + 1) S Z t x) := HR.out.step HNE.out own1 grow1 own2 grow2 (insS_eq S t) (insZ_eq Z t x)
          clear own1 grow1 own2 grow2 HR
          go_loopw [12, 13, 15] (fun v z i wv => ∃ u : Nat, t ≤ u ∧ u ≤ n ∧ i = .int .i64 u ∧ v = .slice (some ⟨wc.heap.size, 0, none⟩) (u + 1) (n + 1) ∧ z = .slice (some ⟨g2, 0, none⟩) (u + 1) (n + 1) ∧ Hid (Rows2 wc wv wc.heap.size g2 n (u + 1) S Z t x)) (fun _ _ i _ => n - (intOf i).toNat)
          case atStart => exact ⟨t, Nat.le_refl _, hj, rfl, rfl, rfl, HR'.out⟩
          case round =>
            clear HR'
            obtain ⟨u, hu0, hu, rfl, rfl, rfl, HR⟩ := hrel
            by_cases hlt2 : u < n
            · obtain ⟨p1, o1, ea, ca⟩ := (HS2.out.below HR.out.2.2 (Nat.le_refl _)).get (show u < n1 by omega)
              obtain ⟨p2, o2, eb, cb⟩ := (HZ2.out.below HR.out.2.2 (Nat.le_refl _)).get (show u < n2 by omega)
              subst ea
              subst eb
              have ht0 : (0 : Int) ≤ (u : Int) := by omega
              have ht1 : (u : Int) < (n1 : Int) := by omega
              have ht2 : (u : Int) < (n2 : Int) := by omega
              have bA := World.block_lt_of_cell? wr _ ca
              have bB := World.block_lt_of_cell? wr _ cb
              go_wp2_with (first
                | (at_builtin; refine wpList_append_fits _ rfl (.tmp 104) (.tmp 109) 22 rfl wc.heap.size 4 i4 1 Try.underlying22 hi4 hs4 wc.heap.size (u + 1) (n + 1) (rowS S t (u + 1)) rfl (HR.out.1.alloc _) ⟨wr.heap.size, 0, none⟩ 1 1 [.bool (S u)] rfl rfl one_news (by simp [Value.oneCell']) (by omega) ?_; intro W1 own1 grow1; have cb1 := HR.out.cellB grow1 HZ2.out (show u < n2 by omega))
                | (at_builtin; refine wpList_append_fits _ rfl (.tmp 111) (.tmp 116) 23 rfl wc.heap.size 3 i3 1 Try.underlying23 hi3 hs3 g2 (u + 1) (n + 1) (rowZ Z t x (u + 1)) rfl ((HR.out.second HNE.out grow1).alloc _) ⟨W1.heap.size, 0, none⟩ 1 1 [.int .i64 (Z u)] rfl rfl one_news (by simp [Value.oneCell']) (by omega) ?_; intro W2 own2 grow2))
              have HR2 : Hid (Rows2 wc W2 wc.heap.size g2 n (u + 1 + 1) S Z t x) := HR.out.step HNE.out own1 grow1 own2 grow2 (insS_gt hu0) (insZ_gt hu0)
              clear own1 grow1 own2 grow2 HR cb1 ca cb
              go_roundw
              case rel => exact ⟨u + 1, by omega, by omega, by go_num, rfl, rfl, HR2.out⟩
              case measure => simp [intOf]; omega
            · obtain rfl : u = n := by omega
              have HSW : Hid (BoolsAt wr a1 n1 S) := HS2.out.below HR.out.2.2 (Nat.le_refl _)
              have HZW : Hid (IntsAt wr b1 n2 Z) := HZ2.out.below HR.out.2.2 (Nat.le_refl _)
              have HBW : Hid (Below w.heap.size w wr) := HB2.out.trans (HR.out.2.2.mono HB2.out.size)
              have HS5 : Hid (BoolsAt wr (some ⟨wc.heap.size, 0, none⟩) (u + 1) (insS S t)) := cells_own HR.out.1 _ (fun i hi => by simp [rowS, hi])
              have HZ5 : Hid (IntsAt wr (some ⟨g2, 0, none⟩) (u + 1) (insZ Z t x)) := cells_own HR.out.2.1 _ (fun i hi => by simp [rowZ, hi])
              clear HR HS2 HZ2 HB2 HNE hi4 hz4 hs4 hb4 hi3 hz3 hs3 hb3 hb4n hb3n
              go_wp2_with fail
              refine (least_any a1 n1 n1 u S _ (by omega) hn1 HSW.out).mono ?_
              rintro e w3 ⟨rfl, hw⟩
              obtain rfl : wr = w3 := hw.symm
              clear hw
              rcases lst_cases S u with ⟨hl, hall⟩ | ⟨m, hm, hl, hSm, hbefore⟩
              · rw [hl]
                have HL : Hid _ := hl
                have HL2 : Hid (lst (insS S t) (u + 1) = -1) := lst_ins_miss hj hall
                clear hl hall
                go_wp2_with fail
                refine (zzfirst_miss a1 b1 n1 n1 n2 n2 u S Z _ (by omega) HM.out HSW.out HZW.out HL.out).mono ?_
                rintro e w3 ⟨rfl, hB3⟩
                have HS6 : Hid (BoolsAt w3 (some ⟨wc.heap.size, 0, none⟩) (u + 1) (insS S t)) := HS5.out.below hB3 (Nat.le_refl _)
                have HZ6 : Hid (IntsAt w3 (some ⟨g2, 0, none⟩) (u + 1) (insZ Z t x)) := HZ5.out.below hB3 (Nat.le_refl _)
                have HZ7 : Hid (IntsAt w3 b1 n2 Z) := HZW.out.below hB3 (Nat.le_refl _)
                have HB6 : Hid (Below w.heap.size w w3) := HBW.out.trans (hB3.mono HBW.out.size)
                clear hB3 HS5 HZ5 HSW HZW HBW
                go_wp2_with fail
                refine (zzfirst_miss _ _ (u + 1) (u + 1) (u + 1) (u + 1) (u + 1) (insS S t) (insZ Z t x) _ (by omega) (.inr ⟨Nat.le_refl _, rfl⟩) HS6.out HZ6.out HL2.out).mono ?_
                rintro e w4 ⟨rfl, hB4⟩
                have HB7 : Hid (Below w.heap.size w w4) := HB6.out.trans (hB4.mono HB6.out.size)
                clear hB4 HB6 HS6 HZ6 HZ7
                go_wp2_with fail
                go_ret
                exact ⟨rfl, HB7.out⟩
              by_cases hmt : m < t
              · rw [hl]
                have HL : Hid _ := hl
                have HSm : Hid _ := hSm
                have HL2 : Hid (lst (insS S t) (u + 1) = ((m : Nat) : Int)) := lst_ins_before hm hmt hSm hbefore
                have HS8 : Hid (insS S t (m) = true) := by show insS S t _ = true; rw [insS_lt hmt]; exact hSm
                have HZ8 : Hid (insZ Z t x (m) = Z m) := insZ_lt hmt
                clear hl hSm hbefore
                have hm0 : (0 : Int) ≤ (m : Int) := by omega
                have hm2 : (m : Int) < (n2 : Int) := by omega
                have hmt1 : (m : Int) < (t : Int) := by omega
                go_wp2_with fail
                refine (zzfirst_hit a1 b1 n1 n1 n2 n2 u m S Z _ (by omega) HM.out HSW.out HZW.out hm HL.out HSm.out).mono ?_
                rintro e w3 ⟨rfl, hB3⟩
                have HS6 : Hid (BoolsAt w3 (some ⟨wc.heap.size, 0, none⟩) (u + 1) (insS S t)) := HS5.out.below hB3 (Nat.le_refl _)
                have HZ6 : Hid (IntsAt w3 (some ⟨g2, 0, none⟩) (u + 1) (insZ Z t x)) := HZ5.out.below hB3 (Nat.le_refl _)
                have HZ7 : Hid (IntsAt w3 b1 n2 Z) := HZW.out.below hB3 (Nat.le_refl _)
                have HB6 : Hid (Below w.heap.size w w3) := HBW.out.trans (hB3.mono HBW.out.size)
                clear hB3 HS5 HZ5 HSW HZW HBW
                go_wp2_with fail
                refine (zzfirst_hit _ _ (u + 1) (u + 1) (u + 1) (u + 1) (u + 1) (m) (insS S t) (insZ Z t x) _ (by omega) (.inr ⟨Nat.le_refl _, rfl⟩) HS6.out HZ6.out (by omega) HL2.out HS8.out).mono ?_
                rintro e w4 ⟨rfl, hB4⟩
                rw [HZ8.out]
                have HB7 : Hid (Below w.heap.size w w4) := HB6.out.trans (hB4.mono HB6.out.size)
                obtain ⟨q, off, rfl, cz⟩ := (HZ7.out.below hB4 (Nat.le_refl _)).get (show m < n2 by omega)
                clear hB4 HB6 HS6 HZ6 HZ7 HS8 HZ8
                go_wp2_with fail
                go_ret
                exact ⟨rfl, HB7.out⟩
              · have hmt : t ≤ m := by omega
                rw [hl]
                have HL : Hid _ := hl
                have HSm : Hid _ := hSm
                have HL2 : Hid (lst (insS S t) (u + 1) = ((m + 1 : Nat) : Int)) := lst_ins_behind hm hmt hSm hbefore
                have HS8 : Hid (insS S t (m + 1) = true) := by show insS S t _ = true; rw [insS_gt hmt]; exact hSm
                have HZ8 : Hid (insZ Z t x (m + 1) = Z m) := insZ_gt hmt
                clear hl hSm hbefore
                have hm0 : (0 : Int) ≤ (m : Int) := by omega
                have hm2 : (m : Int) < (n2 : Int) := by omega
                have hmt1 : (t : Int) ≤ (m : Int) := by omega
                go_wp2_with fail
                refine (zzfirst_hit a1 b1 n1 n1 n2 n2 u m S Z _ (by omega) HM.out HSW.out HZW.out hm HL.out HSm.out).mono ?_
                rintro e w3 ⟨rfl, hB3⟩
                have HS6 : Hid (BoolsAt w3 (some ⟨wc.heap.size, 0, none⟩) (u + 1) (insS S t)) := HS5.out.below hB3 (Nat.le_refl _)
                have HZ6 : Hid (IntsAt w3 (some ⟨g2, 0, none⟩) (u + 1) (insZ Z t x)) := HZ5.out.below hB3 (Nat.le_refl _)
                have HZ7 : Hid (IntsAt w3 b1 n2 Z) := HZW.out.below hB3 (Nat.le_refl _)
                have HB6 : Hid (Below w.heap.size w w3) := HBW.out.trans (hB3.mono HBW.out.size)
                clear hB3 HS5 HZ5 HSW HZW HBW
                go_wp2_with fail
                refine (zzfirst_hit _ _ (u + 1) (u + 1) (u + 1) (u + 1) (u + 1) (m + 1) (insS S t) (insZ Z t x) _ (by omega) (.inr ⟨Nat.le_refl _, rfl⟩) HS6.out HZ6.out (by omega) HL2.out HS8.out).mono ?_
                rintro e w4 ⟨rfl, hB4⟩
                rw [HZ8.out]
                have HB7 : Hid (Below w.heap.size w w4) := HB6.out.trans (hB4.mono HB6.out.size)
                obtain ⟨q, off, rfl, cz⟩ := (HZ7.out.below hB4 (Nat.le_refl _)).get (show m < n2 by omega)
                clear hB4 HB6 HS6 HZ6 HZ7 HS8 HZ8
                go_wp2_with fail
                go_ret
                exact ⟨rfl, HB7.out⟩

end Go.Proofs.Qxb6614698a
