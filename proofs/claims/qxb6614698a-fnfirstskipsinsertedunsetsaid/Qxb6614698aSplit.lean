import Derived.Test.Qxb6614698aCopy
namespace Go.Proofs.Qxb6614698a
open Go.RowKit

theorem CellsAt.take {w : World} {ad : Option Addr} {n : Nat} {V : Nat → Value} (h : CellsAt w ad n V) {k : Nat} (hk : k ≤ n) : CellsAt w ad k V := by
  by_cases h0 : k = 0
  · exact .inl h0
  · rcases h with h | ⟨p, off, rfl, hc⟩
    · omega
    · exact .inr ⟨p, off, rfl, fun i hi => hc i (by omega)⟩
theorem CellsAt.drew {w : World} {ad : Option Addr} {n : Nat} {V : Nat → Value} (h : CellsAt w ad n V) : CellsAt w.drew ad n V := h

/-- The cells behind a cut, at the address as the walk writes it. -/
theorem CellsAt.drop {w : World} {ad : Option Addr} {n : Nat} {V : Nat → Value} (h : CellsAt w ad n V) {k : Nat} (hk : k ≤ n) : CellsAt w (if n = k then ad else Option.map (fun x => x.add k) ad) (n - k) (fun i => V (k + i)) := by
  by_cases h0 : n = k
  · exact .inl (by omega)
  · rw [if_neg h0]
    rcases h with h | ⟨p, off, rfl, hc⟩
    · omega
    · refine .inr ⟨p, off + k, ?_, fun i hi => ?_⟩
      · simp only [Option.map_some]
        congr 1
        unfold Addr.add
        split <;> simp_all
      · rw [Nat.add_assoc]; exact hc (k + i) (by omega)
/-- 'x[k:]' of a slice without spare room: its value under a name of its own. -/
theorem cut_from (ad : Option Addr) (n k : Nat) (t e : TypeId) (ht : Try.prog.underlying t = some (.slice e)) (hsz : (Try.prog.info? e).map (·.size) = some 1) (hk : k ≤ n) :
    ∃ aS, (∀ w, (Instr.slice t (.slice ad n n) (some (.int .i64 k)) none none).run Try.prog w = .ok (.slice aS (n - k) (n - k)) w) ∧ ∀ (w : World) (V : Nat → Value), CellsAt w ad n V → CellsAt w aS (n - k) fun i => V (k + i) := by
  obtain ⟨i, hi, hs⟩ : ∃ i, Try.prog.info? e = some i ∧ i.size = 1 := by
    cases h : Try.prog.info? e with
    | none => rw [h] at hsz; cases hsz
    | some i => rw [h] at hsz; exact ⟨i, rfl, by simpa using hsz⟩
  refine ⟨if n = k then ad else Option.map (fun x => x.add k) ad, fun w => ?_, fun w V h => h.drop hk⟩
  have hk1 : (k : Int) ≤ (n : Int) := by omega
  simp [Instr.slice, run_underlying ht, Instr.sliceBounds, run_sliceBound, sizeOf, typeInfo, hi, hs, hk1]

theorem Min2.sub {n1 n2 n j : Nat} (h : Min2 n1 n2 n) (hj : j ≤ n) : Min2 (n1 - j) (n2 - j) (n - j) := by
  rcases h with ⟨h, rfl⟩ | ⟨h, rfl⟩
  · exact .inl ⟨by omega, rfl⟩
  · exact .inr ⟨by omega, rfl⟩
/-- Three results, whatever they are. -/
def EndsThree (e : Ending) : Prop := ∃ (b : Bool) (z r : Int), e = .returned (.tuple #[.bool b, .int .i64 z, .int .i64 r])
theorem zzfirst_any (a b : Option Addr) (n1 c1 n2 c2 n : Nat) (S : Nat → Bool) (Z : Nat → Int) (w : World) (hn : n ≤ 1048576) (hm : Min2 n1 n2 n) (hs : BoolsAt w a n1 S) (hz : IntsAt w b n2 Z) :
    Calls Try.prog 10 #[.slice a n1 c1, .slice b n2 c2] w fun e w' => EndsThree e ∧ Below w.heap.size w w' := by
  rcases lst_cases S n with ⟨hl, _⟩ | ⟨m, hk, hl, hS, _⟩
  · refine (zzfirst_miss a b n1 c1 n2 c2 n S Z w hn hm hs hz hl).mono ?_
    rintro e w' ⟨rfl, h⟩
    exact ⟨⟨_, _, _, rfl⟩, h⟩
  · refine (zzfirst_hit a b n1 c1 n2 c2 n m S Z w hn hm hs hz hk hl hS).mono ?_
    rintro e w' ⟨rfl, h⟩
    exact ⟨⟨_, _, _, rfl⟩, h⟩

theorem min2 (n1 n2 : Nat) : ∃ n, Min2 n1 n2 n := by
  by_cases h : n2 < n1
  · exact ⟨n2, .inl ⟨h, rfl⟩⟩
  · exact ⟨n1, .inr ⟨by omega, rfl⟩⟩

set_option maxRecDepth 100000 in
set_option maxHeartbeats 4000000 in
theorem split_any (a b : Option Addr) (n1 c1 n2 c2 : Nat) (k : Int) (S : Nat → Bool) (Z : Nat → Int) (w : World) (hs : BoolsAt w a n1 S) (hz : IntsAt w b n2 Z) (ha : a = none → n1 = 0 ∧ c1 = 0) (hb : b = none → n2 = 0 ∧ c2 = 0) :
    Calls Try.prog 3 #[.slice a n1 c1, .slice b n2 c2, .int .i64 k] w fun e w' => e = .returned (.bool true) ∧ Below w.heap.size w w' := by
  have HS : Hid (BoolsAt w a n1 S) := hs
  have HZ : Hid (IntsAt w b n2 Z) := hz
  clear hs hz
  obtain ⟨i4, hi4, hz4, hs4, hb4⟩ := info_parts info4
  obtain ⟨i3, hi3, hz3, hs3, hb3⟩ := info_parts info3
  have hq22 := fun (w : World) (a : Option Addr) (n c : Nat) => run_neq_slice_nil_any (P := Try.prog) w 22 4 a n c 0 0 Try.underlying22
  have hq23 := fun (w : World) (a : Option Addr) (n c : Nat) => run_neq_slice_nil_any (P := Try.prog) w 23 3 a n c 0 0 Try.underlying23
  go_enter Try.func3, Try.ntmps3
  go_wp2_with fail
  refine (bytes7 a b n1 c1 n2 c2 k _).mono ?_
  rintro e w0 ⟨⟨bb, rfl⟩, hw⟩
  obtain rfl : w = w0 := hw.symm
  clear hw
  cases bb with
  | false =>
    go_wp2_with fail
    go_ret
    exact ⟨rfl, Below.refl _ _⟩
  | true =>
  by_cases h1 : n1 ≤ 65536
  case neg =>
    go_wp2_with fail
    go_ret
    exact ⟨rfl, Below.refl _ _⟩
  by_cases h2 : n2 ≤ 65536
  case neg =>
    go_wp2_with fail
    go_ret
    exact ⟨rfl, Below.refl _ _⟩
  go_upto_if 34 with fail
  go_cut [0] (fun v wc => Hid (∃ a', v = .slice a' n1 n1 ∧ BoolsAt wc a' n1 S ∧ Below w.heap.size w wc))
  case first =>
    cases a with
    | none =>
      obtain ⟨rfl, rfl⟩ := ha rfl
      clear ha
      go_wp2_with fail
      go_meet
      case rel => exact ⟨none, rfl, HS.out, Below.refl _ _⟩
    | some x =>
      have hbn : i4.bytes * n1 ≤ 281474976710656 := by rw [hb4]; omega
      have hnm : n1 ≤ maxLen := by unfold maxLen; omega
      go_wp2_with (first
        | (at_make; refine wpList_make_full _ rfl _ _ 22 rfl w.heap.size 4 i4 _ 1 Try.underlying22 hi4 hz4 hs4 .i64 .i64 _ _ n1 rfl rfl (by omega) (by omega) hbn hnm (by simp) ?_; intro w1 hown0 hgrow; have HG1 : Hid (w1.heap[w.heap.size]? = some (.cells (List.replicate n1 (.bool false)).toArray 4 (0, 0))) := made_row (z := .bool false) hown0; have HB1 : Hid (Below w.heap.size w w1) := (Below.refl _ _).grown hgrow (by simp) (by intro k h; cases h); have HS1 : Hid (CellsAt w1 (some x) n1 fun i => .bool (S i)) := HS.out.below HB1.out (Nat.le_refl _); clear hown0 hgrow))
      obtain ⟨w2, hrun, hc2, hB2⟩ := copy_run (c := c1) 22 3 4 Try.underlying22 size4 HG1.out HS1.out (copy_one n1 S) HB1.out (Nat.le_refl _)
      have HC2 : Hid _ := hc2
      have HB2 : Hid _ := hB2
      clear hc2 hB2 HG1 HB1 HS1
      rw [hrun]
      clear hrun
      go_wp2_with fail
      go_meet
      case rel => exact ⟨_, rfl, HC2.out, HB2.out⟩
  case rest =>
    obtain ⟨a1, rfl, hs1, hB1⟩ := hcut.out
    have HZ1 : Hid (IntsAt wc b n2 Z) := HZ.out.below hB1 (Nat.le_refl _)
    have HS1 : Hid (BoolsAt wc a1 n1 S) := hs1
    have HB1 : Hid (Below w.heap.size w wc) := hB1
    clear hcut hs1 hB1 HZ HS ha
    go_upto_if 43 with fail
    go_cut [1] (fun v wd => Hid (∃ b', v = .slice b' n2 n2 ∧ IntsAt wd b' n2 Z ∧ BoolsAt wd a1 n1 S ∧ Below w.heap.size w wd))
    case first =>
      cases b with
      | none =>
        obtain ⟨rfl, rfl⟩ := hb rfl
        clear hb
        go_wp2_with fail
        go_meet
        case rel => exact ⟨none, rfl, HZ1.out, HS1.out, HB1.out⟩
      | some x =>
        have hbn : i3.bytes * n2 ≤ 281474976710656 := by rw [hb3]; omega
        have hnm : n2 ≤ maxLen := by unfold maxLen; omega
        go_wp2_with (first
          | (at_make; refine wpList_make_full _ rfl _ _ 23 rfl wc.heap.size 3 i3 _ 1 Try.underlying23 hi3 hz3 hs3 .i64 .i64 _ _ n2 rfl rfl (by omega) (by omega) hbn hnm (by simp) ?_; intro w1 hown0 hgrow; have HG1 : Hid (w1.heap[wc.heap.size]? = some (.cells (List.replicate n2 (.int .i64 0)).toArray 3 (0, 0))) := made_row (z := .int .i64 0) hown0; have HB2 : Hid (Below wc.heap.size wc w1) := (Below.refl _ _).grown hgrow (by simp) (by intro k h; cases h); have HZ2 : Hid (CellsAt w1 (some x) n2 fun i => .int .i64 (Z i)) := HZ1.out.below HB2.out (Nat.le_refl _); clear hown0 hgrow))
        obtain ⟨w2, hrun, hc2, hB2⟩ := copy_run (c := c2) 23 3 3 Try.underlying23 size3 HG1.out HZ2.out (copy_one3 n2 Z) HB2.out (Nat.le_refl _)
        have HC2 : Hid _ := hc2
        have HS2 : Hid (BoolsAt w2 a1 n1 S) := HS1.out.below hB2 (Nat.le_refl _)
        have HB3 : Hid (Below w.heap.size w w2) := HB1.out.trans (hB2.mono HB1.out.size)
        clear hc2 hB2 HG1 HB2 HZ2
        rw [hrun]
        clear hrun
        go_wp2_with fail
        go_meet
        case rel => exact ⟨_, rfl, HC2.out, HS2.out, HB3.out⟩
    case rest =>
      obtain ⟨b1, rfl, hz2, hs2, hB2⟩ := hcut.out
      have HZ2 : Hid (IntsAt wc b1 n2 Z) := hz2
      have HS2 : Hid (BoolsAt wc a1 n1 S) := hs2
      have HB2 : Hid (Below w.heap.size w wc) := hB2
      clear hcut hz2 hs2 hB2 HZ1 HS1 HB1 hb hi4 hz4 hs4 hb4 hi3 hz3 hs3 hb3 hq22 hq23
      obtain ⟨n, hmin⟩ := min2 n1 n2
      have HM : Hid (Min2 n1 n2 n) := hmin
      have hn1 : n ≤ n1 := by rcases hmin with ⟨_, rfl⟩ | ⟨_, rfl⟩ <;> omega
      have hn2 : n ≤ n2 := by rcases hmin with ⟨_, rfl⟩ | ⟨_, rfl⟩ <;> omega
      clear hmin
      go_wp2_with fail
      refine (minLen_any a1 b1 n1 n1 n2 n2 n _ HM.out).mono ?_
      rintro e w3 ⟨rfl, hw⟩
      obtain rfl : wc = w3 := hw.symm
      clear hw
      by_cases hk : 0 ≤ k ∧ k ≤ n
      case neg =>
        by_cases hk0 : k < 0
        · go_wp2_with fail
          go_ret
          exact ⟨rfl, HB2.out⟩
        · have hk1 : (n : Int) < k := by omega
          go_wp2_with fail
          go_ret
          exact ⟨rfl, HB2.out⟩
      obtain ⟨j, rfl⟩ := Int.eq_ofNat_of_zero_le hk.1
      have hj : j ≤ n := by omega
      clear hk
      have hj0 : (0 : Int) ≤ (j : Int) := by omega
      have hjn : (j : Int) ≤ (n : Int) := by omega
      have hj1 : (j : Int) ≤ (n1 : Int) := by omega
      have hj2 : (j : Int) ≤ (n2 : Int) := by omega
      go_wp2_with fail
      refine (least_any a1 n1 n1 n S _ (by omega) hn1 HS2.out).mono ?_
      rintro e w3 ⟨rfl, hw⟩
      obtain rfl : wc = w3 := hw.symm
      clear hw
      rcases lst_cases S n with ⟨hl, hall⟩ | ⟨m, hm, hl, hSm, hbefore⟩
      · -- nothing is set
        rw [hl]
        have HL : Hid _ := hl
        have HA : Hid _ := hall
        have HMB : Hid (Min2 (n1 - j) (n2 - j) (n - j)) := HM.out.sub (by omega)
        clear hl hall
        go_wp2_with fail
        refine (zzfirst_miss a1 b1 n1 n1 n2 n2 n S Z _ (by omega) HM.out HS2.out HZ2.out HL.out).mono ?_
        rintro e w3 ⟨rfl, hB3⟩
        have HS3 : Hid (BoolsAt w3 a1 n1 S) := HS2.out.below hB3 (Nat.le_refl _)
        have HZ3 : Hid (IntsAt w3 b1 n2 Z) := HZ2.out.below hB3 (Nat.le_refl _)
        have HB3 : Hid (Below w.heap.size w w3) := HB2.out.trans (hB3.mono HB2.out.size)
        clear hB3 HS2 HZ2 HB2
        have HLA : Hid (lst S j = -1) := lst_miss fun i hi => HA.out i (by omega)
        have hj1' : j ≤ n1 := by omega
        have hj2' : j ≤ n2 := by omega
        go_wp2_with fail
        go_region_held3 (fun w' => True) (trivial)
          ((go_at_call 10; refine (zzfirst_miss _ _ j _ j _ j S Z _ (by omega) (.inr ⟨Nat.le_refl _, rfl⟩) (HS3.out.take hj1').drew (HZ3.out.take hj2').drew HLA.out).mono ?_; rintro e w4 ⟨rfl, hB4⟩))
        have HS4 : Hid (BoolsAt w4 a1 n1 S) := HS3.out.drew.below hB4 (Nat.le_refl _)
        have HZ4 : Hid (IntsAt w4 b1 n2 Z) := HZ3.out.drew.below hB4 (Nat.le_refl _)
        have HB4 : Hid (Below w.heap.size w w4) := HB3.out.drew.trans (hB4.mono HB3.out.drew.size)
        clear hB4 HS3 HZ3 HB3
        obtain ⟨aS, hsl1, hcs⟩ := cut_from a1 n1 j 22 4 Try.underlying22 size4 hj1'
        obtain ⟨bS, hsl2, hcb⟩ := cut_from b1 n2 j 23 3 Try.underlying23 size3 hj2'
        have HS4' : Hid (BoolsAt w4.drew aS (n1 - j) fun i => S (j + i)) := hcs w4.drew _ HS4.out.drew
        have HZ4' : Hid (IntsAt w4.drew bS (n2 - j) fun i => Z (j + i)) := hcb w4.drew _ HZ4.out.drew
        clear hcs hcb
        have HLB : Hid (lst (fun i => S (j + i)) (n - j) = -1) := lst_miss fun i hi => HA.out (j + i) (by omega)
        go_wp2_with fail
        go_region_held3 (fun w' => True) (trivial)
          ((go_at_call 10; refine (zzfirst_miss _ _ (n1 - j) _ (n2 - j) _ (n - j) (fun i => S (j + i)) (fun i => Z (j + i)) _ (by omega) HMB.out HS4'.out HZ4'.out HLB.out).mono ?_; rintro e w5 ⟨rfl, hB5⟩))
        have HZ5 : Hid (IntsAt w5 b1 n2 Z) := HZ4.out.drew.below hB5 (Nat.le_refl _)
        have HB5 : Hid (Below w.heap.size w w5) := HB4.out.drew.trans (hB5.mono HB4.out.drew.size)
        clear hB5 HS4 HZ4 HB4 HS4' HZ4' hsl1 hsl2
        go_wp2_with fail
        go_ret
        exact ⟨rfl, HB5.out⟩
      by_cases hmj : m < j
      · -- the least one lies before the cut
        rw [hl]
        have HL : Hid _ := hl
        have HSm : Hid _ := hSm
        have HA : Hid _ := hbefore
        have HMB : Hid (Min2 (n1 - j) (n2 - j) (n - j)) := HM.out.sub (by omega)
        clear hl hSm hbefore
        have hm0 : (0 : Int) ≤ (m : Int) := by omega
        have hm2 : (m : Int) < (n2 : Int) := by omega
        go_wp2_with fail
        refine (zzfirst_hit a1 b1 n1 n1 n2 n2 n m S Z _ (by omega) HM.out HS2.out HZ2.out hm HL.out HSm.out).mono ?_
        rintro e w3 ⟨rfl, hB3⟩
        have HS3 : Hid (BoolsAt w3 a1 n1 S) := HS2.out.below hB3 (Nat.le_refl _)
        have HZ3 : Hid (IntsAt w3 b1 n2 Z) := HZ2.out.below hB3 (Nat.le_refl _)
        have HB3 : Hid (Below w.heap.size w w3) := HB2.out.trans (hB3.mono HB2.out.size)
        clear hB3 HS2 HZ2 HB2
        have HLA : Hid (lst S j = m) := lst_hit hmj HSm.out HA.out
        have hj1' : j ≤ n1 := by omega
        have hj2' : j ≤ n2 := by omega
        go_wp2_with fail
        go_region_held3 (fun w' => True) (trivial)
          ((go_at_call 10; refine (zzfirst_hit _ _ j _ j _ j m S Z _ (by omega) (.inr ⟨Nat.le_refl _, rfl⟩) (HS3.out.take hj1').drew (HZ3.out.take hj2').drew (by omega) HLA.out HSm.out).mono ?_; rintro e w4 ⟨rfl, hB4⟩))
        have HS4 : Hid (BoolsAt w4 a1 n1 S) := HS3.out.drew.below hB4 (Nat.le_refl _)
        have HZ4 : Hid (IntsAt w4 b1 n2 Z) := HZ3.out.drew.below hB4 (Nat.le_refl _)
        have HB4 : Hid (Below w.heap.size w w4) := HB3.out.drew.trans (hB4.mono HB3.out.drew.size)
        clear hB4 HS3 HZ3 HB3
        obtain ⟨aS, hsl1, hcs⟩ := cut_from a1 n1 j 22 4 Try.underlying22 size4 hj1'
        obtain ⟨bS, hsl2, hcb⟩ := cut_from b1 n2 j 23 3 Try.underlying23 size3 hj2'
        have HS4' : Hid (BoolsAt w4.drew aS (n1 - j) fun i => S (j + i)) := hcs w4.drew _ HS4.out.drew
        have HZ4' : Hid (IntsAt w4.drew bS (n2 - j) fun i => Z (j + i)) := hcb w4.drew _ HZ4.out.drew
        clear hcs hcb
        go_wp2_with fail
        go_region_held3 (fun w' => True) (trivial)
          ((go_at_call 10; refine (zzfirst_any _ _ (n1 - j) _ (n2 - j) _ (n - j) (fun i => S (j + i)) (fun i => Z (j + i)) _ (by omega) HMB.out HS4'.out HZ4'.out).mono ?_; rintro e w5 ⟨⟨bx, zx, rx, rfl⟩, hB5⟩))
        have HZ5 : Hid (IntsAt w5 b1 n2 Z) := HZ4.out.drew.below hB5 (Nat.le_refl _)
        have HB5 : Hid (Below w.heap.size w w5) := HB4.out.drew.trans (hB5.mono HB4.out.drew.size)
        clear hB5 HS4 HZ4 HB4 HS4' HZ4' hsl1 hsl2
        obtain ⟨q, off, rfl, cz⟩ := HZ5.out.get (show m < n2 by omega)
        clear HZ5
        go_wp2_with fail
        go_ret
        exact ⟨rfl, HB5.out⟩
      · -- it lies at the cut or behind it
        rw [hl]
        have HL : Hid _ := hl
        have HSm : Hid _ := hSm
        have HA : Hid _ := hbefore
        have HMB : Hid (Min2 (n1 - j) (n2 - j) (n - j)) := HM.out.sub (by omega)
        clear hl hSm hbefore
        have hm0 : (0 : Int) ≤ (m : Int) := by omega
        have hm2 : (m : Int) < (n2 : Int) := by omega
        go_wp2_with fail
        refine (zzfirst_hit a1 b1 n1 n1 n2 n2 n m S Z _ (by omega) HM.out HS2.out HZ2.out hm HL.out HSm.out).mono ?_
        rintro e w3 ⟨rfl, hB3⟩
        have HS3 : Hid (BoolsAt w3 a1 n1 S) := HS2.out.below hB3 (Nat.le_refl _)
        have HZ3 : Hid (IntsAt w3 b1 n2 Z) := HZ2.out.below hB3 (Nat.le_refl _)
        have HB3 : Hid (Below w.heap.size w w3) := HB2.out.trans (hB3.mono HB2.out.size)
        clear hB3 HS2 HZ2 HB2
        have HLA : Hid (lst S j = -1) := lst_miss fun i hi => HA.out i (by omega)
        have hj1' : j ≤ n1 := by omega
        have hj2' : j ≤ n2 := by omega
        go_wp2_with fail
        go_region_held3 (fun w' => True) (trivial)
          ((go_at_call 10; refine (zzfirst_miss _ _ j _ j _ j S Z _ (by omega) (.inr ⟨Nat.le_refl _, rfl⟩) (HS3.out.take hj1').drew (HZ3.out.take hj2').drew HLA.out).mono ?_; rintro e w4 ⟨rfl, hB4⟩))
        have HS4 : Hid (BoolsAt w4 a1 n1 S) := HS3.out.drew.below hB4 (Nat.le_refl _)
        have HZ4 : Hid (IntsAt w4 b1 n2 Z) := HZ3.out.drew.below hB4 (Nat.le_refl _)
        have HB4 : Hid (Below w.heap.size w w4) := HB3.out.drew.trans (hB4.mono HB3.out.drew.size)
        clear hB4 HS3 HZ3 HB3
        obtain ⟨aS, hsl1, hcs⟩ := cut_from a1 n1 j 22 4 Try.underlying22 size4 hj1'
        obtain ⟨bS, hsl2, hcb⟩ := cut_from b1 n2 j 23 3 Try.underlying23 size3 hj2'
        have HS4' : Hid (BoolsAt w4.drew aS (n1 - j) fun i => S (j + i)) := hcs w4.drew _ HS4.out.drew
        have HZ4' : Hid (IntsAt w4.drew bS (n2 - j) fun i => Z (j + i)) := hcb w4.drew _ HZ4.out.drew
        clear hcs hcb
        have HLB : Hid (lst (fun i => S (j + i)) (n - j) = ((m - j : Nat) : Int)) := lst_hit (by omega) (by rw [show j + (m - j) = m by omega]; exact HSm.out) (fun i hi => HA.out (j + i) (by omega))
        have HSB : Hid (S (j + (m - j)) = true) := by show S _ = true; rw [show j + (m - j) = m by omega]; exact HSm.out
        go_wp2_with fail
        go_region_held3 (fun w' => True) (trivial)
          ((go_at_call 10; refine (zzfirst_hit _ _ (n1 - j) _ (n2 - j) _ (n - j) (m - j) (fun i => S (j + i)) (fun i => Z (j + i)) _ (by omega) HMB.out HS4'.out HZ4'.out (by omega) HLB.out HSB.out).mono ?_; rintro e w5 ⟨rfl, hB5⟩))
        have HZ5 : Hid (IntsAt w5 b1 n2 Z) := HZ4.out.drew.below hB5 (Nat.le_refl _)
        have HB5 : Hid (Below w.heap.size w w5) := HB4.out.drew.trans (hB5.mono HB4.out.drew.size)
        clear hB5 HS4 HZ4 HB4 HS4' HZ4' hsl1 hsl2
        rw [show ((m - j : Nat) : Int) = (m : Int) - (j : Int) from by omega]
        rw [show j + (m - j) = m from by omega]
        have hmj' : (j : Int) ≤ (m : Int) := by omega
        obtain ⟨q, off, rfl, cz⟩ := HZ5.out.get (show m < n2 by omega)
        clear HZ5
        go_wp2_with fail
        go_ret
        exact ⟨ret_bool (by rw [beq_iff_eq]; omega), HB5.out⟩

end Go.Proofs.Qxb6614698a
