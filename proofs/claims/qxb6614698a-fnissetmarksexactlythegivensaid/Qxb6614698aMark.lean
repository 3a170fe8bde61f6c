import Derived.Test.Qxb6614698aSplit
namespace Go.Proofs.Qxb6614698a
open Go.RowKit

theorem i64_wrap_in (x : Int) (h0 : -9223372036854775808 ≤ x) (h1 : x ≤ 9223372036854775807) : IntKind.i64.wrap x = x := by
  simp only [IntKind.wrap, IntKind.bits, IntKind.signed]
  simp
  omega

/-- 'x[k:k+1]' of a slice without spare room. -/
theorem cut_one (ad : Option Addr) (n k : Nat) (t e : TypeId) (ht : Try.prog.underlying t = some (.slice e)) (hsz : (Try.prog.info? e).map (·.size) = some 1) (hk : k < n) :
    ∃ aS, (∀ w, (Instr.slice t (.slice ad n n) (some (.int .i64 k)) (some (.int .i64 ((k : Int) + 1))) none).run Try.prog w = .ok (.slice aS 1 (n - k)) w) ∧ ∀ (w : World) (V : Nat → Value), CellsAt w ad n V → CellsAt w aS 1 fun i => V (k + i) := by
  obtain ⟨i, hi, hs⟩ : ∃ i, Try.prog.info? e = some i ∧ i.size = 1 := by
    cases h : Try.prog.info? e with
    | none => rw [h] at hsz; cases hsz
    | some i => rw [h] at hsz; exact ⟨i, rfl, by simpa using hsz⟩
  have hne : ¬ n = k := by omega
  refine ⟨Option.map (fun x => x.add k) ad, fun w => ?_, fun w V h => ?_⟩
  · have hk1 : (k : Int) + 1 ≤ (n : Int) := by omega
    have hk3 : (0 : Int) ≤ (k : Int) + 1 := by omega
    have hb := run_sliceBound (P := Try.prog) (w := w) .i64 (k : Int) (k + 1) .sliceB (by omega) (by omega)
    simp [Instr.slice, run_underlying ht, Instr.sliceBounds, run_sliceBound, sizeOf, typeInfo, hi, hs, hk1, hk3, hb, hne]
  · have := h.drop (Nat.le_of_lt hk)
    rw [if_neg hne] at this
    exact this.take (by omega)

set_option maxRecDepth 100000 in
set_option maxHeartbeats 4000000 in
theorem mark_any (a b : Option Addr) (n1 c1 n2 c2 : Nat) (S : Nat → Bool) (Z : Nat → Int) (w : World) (hs : BoolsAt w a n1 S) (hz : IntsAt w b n2 Z) (ha : a = none → n1 = 0 ∧ c1 = 0) (hb : b = none → n2 = 0 ∧ c2 = 0) :
    Calls Try.prog 6 #[.slice a n1 c1, .slice b n2 c2] w fun e w' => e = .returned (.bool true) ∧ Below w.heap.size w w' := by
  have HS : Hid (BoolsAt w a n1 S) := hs
  have HZ : Hid (IntsAt w b n2 Z) := hz
  clear hs hz
  obtain ⟨i4, hi4, hz4, hs4, hb4⟩ := info_parts info4
  obtain ⟨i3, hi3, hz3, hs3, hb3⟩ := info_parts info3
  have hq22 := fun (w : World) (a : Option Addr) (n c : Nat) => run_neq_slice_nil_any (P := Try.prog) w 22 4 a n c 0 0 Try.underlying22
  have hq23 := fun (w : World) (a : Option Addr) (n c : Nat) => run_neq_slice_nil_any (P := Try.prog) w 23 3 a n c 0 0 Try.underlying23
  go_enter Try.func6, Try.ntmps6
  go_wp2_with fail
  refine (bytes15 a b n1 c1 n2 c2 _).mono ?_
  rintro e w0 ⟨⟨bb, rfl⟩, hw⟩
  obtain rfl : w = w0 := hw.symm
  clear hw
  cases bb with
  | false =>
    go_wp2_with fail
    go_ret
    exact ⟨rfl, Below.refl _ _⟩
  | true =>
  by_cases h1 : n1 ≤ 65536
  case neg =>
    go_wp2_with fail
    go_ret
    exact ⟨rfl, Below.refl _ _⟩
  by_cases h2 : n2 ≤ 65536
  case neg =>
    go_wp2_with fail
    go_ret
    exact ⟨rfl, Below.refl _ _⟩
  go_upto_if 26 with fail
  go_cut [0] (fun v wc => Hid (∃ a', v = .slice a' n1 n1 ∧ BoolsAt wc a' n1 S ∧ Below w.heap.size w wc))
  case first =>
    cases a with
    | none =>
      obtain ⟨rfl, rfl⟩ := ha rfl
      clear ha
      go_wp2_with fail
      go_meet
      case rel => exact ⟨none, rfl, HS.out, Below.refl _ _⟩
    | some x =>
      have hbn : i4.bytes * n1 ≤ 281474976710656 := by rw [hb4]; omega
      have hnm : n1 ≤ maxLen := by unfold maxLen; omega
      go_wp2_with (first
        | (at_make; refine wpList_make_full _ rfl _ _ 22 rfl w.heap.size 4 i4 _ 1 Try.underlying22 hi4 hz4 hs4 .i64 .i64 _ _ n1 rfl rfl (by omega) (by omega) hbn hnm (by simp) ?_; intro w1 hown0 hgrow; have HG1 : Hid (w1.heap[w.heap.size]? = some (.cells (List.replicate n1 (.bool false)).toArray 4 (0, 0))) := made_row (z := .bool false) hown0; have HB1 : Hid (Below w.heap.size w w1) := (Below.refl _ _).grown hgrow (by simp) (by intro k h; cases h); have HS1 : Hid (CellsAt w1 (some x) n1 fun i => .bool (S i)) := HS.out.below HB1.out (Nat.le_refl _); clear hown0 hgrow))
      obtain ⟨w2, hrun, hc2, hB2⟩ := copy_run (c := c1) 22 3 4 Try.underlying22 size4 HG1.out HS1.out (copy_one n1 S) HB1.out (Nat.le_refl _)
      have HC2 : Hid _ := hc2
      have HB2 : Hid _ := hB2
      clear hc2 hB2 HG1 HB1 HS1
      rw [hrun]
      clear hrun
      go_wp2_with fail
      go_meet
      case rel => exact ⟨_, rfl, HC2.out, HB2.out⟩
  case rest =>
    obtain ⟨a1, rfl, hs1, hB1⟩ := hcut.out
    have HZ1 : Hid (IntsAt wc b n2 Z) := HZ.out.below hB1 (Nat.le_refl _)
    have HS1 : Hid (BoolsAt wc a1 n1 S) := hs1
    have HB1 : Hid (Below w.heap.size w wc) := hB1
    clear hcut hs1 hB1 HZ HS ha
    go_upto_if 35 with fail
    go_cut [1] (fun v wd => Hid (∃ b', v = .slice b' n2 n2 ∧ IntsAt wd b' n2 Z ∧ BoolsAt wd a1 n1 S ∧ Below w.heap.size w wd))
    case first =>
      cases b with
      | none =>
        obtain ⟨rfl, rfl⟩ := hb rfl
        clear hb
        go_wp2_with fail
        go_meet
        case rel => exact ⟨none, rfl, HZ1.out, HS1.out, HB1.out⟩
      | some x =>
        have hbn : i3.bytes * n2 ≤ 281474976710656 := by rw [hb3]; omega
        have hnm : n2 ≤ maxLen := by unfold maxLen; omega
        go_wp2_with (first
          | (at_make; refine wpList_make_full _ rfl _ _ 23 rfl wc.heap.size 3 i3 _ 1 Try.underlying23 hi3 hz3 hs3 .i64 .i64 _ _ n2 rfl rfl (by omega) (by omega) hbn hnm (by simp) ?_; intro w1 hown0 hgrow; have HG1 : Hid (w1.heap[wc.heap.size]? = some (.cells (List.replicate n2 (.int .i64 0)).toArray 3 (0, 0))) := made_row (z := .int .i64 0) hown0; have HB2 : Hid (Below wc.heap.size wc w1) := (Below.refl _ _).grown hgrow (by simp) (by intro k h; cases h); have HZ2 : Hid (CellsAt w1 (some x) n2 fun i => .int .i64 (Z i)) := HZ1.out.below HB2.out (Nat.le_refl _); clear hown0 hgrow))
        obtain ⟨w2, hrun, hc2, hB2⟩ := copy_run (c := c2) 23 3 3 Try.underlying23 size3 HG1.out HZ2.out (copy_one3 n2 Z) HB2.out (Nat.le_refl _)
        have HC2 : Hid _ := hc2
        have HS2 : Hid (BoolsAt w2 a1 n1 S) := HS1.out.below hB2 (Nat.le_refl _)
        have HB3 : Hid (Below w.heap.size w w2) := HB1.out.trans (hB2.mono HB1.out.size)
        clear hc2 hB2 HG1 HB2 HZ2
        rw [hrun]
        clear hrun
        go_wp2_with fail
        go_meet
        case rel => exact ⟨_, rfl, HC2.out, HS2.out, HB3.out⟩
    case rest =>
      obtain ⟨b1, rfl, hz2, hs2, hB2⟩ := hcut.out
      have HZ2 : Hid (IntsAt wc b1 n2 Z) := hz2
      have HS2 : Hid (BoolsAt wc a1 n1 S) := hs2
      have HB2 : Hid (Below w.heap.size w wc) := hB2
      clear hcut hz2 hs2 hB2 HZ1 HS1 HB1 hb hi4 hz4 hs4 hb4 hi3 hz3 hs3 hb3 hq22 hq23
      obtain ⟨n, hmin⟩ := min2 n1 n2
      have HM : Hid (Min2 n1 n2 n) := hmin
      have hn1 : n ≤ n1 := by rcases hmin with ⟨_, rfl⟩ | ⟨_, rfl⟩ <;> omega
      have hn2 : n ≤ n2 := by rcases hmin with ⟨_, rfl⟩ | ⟨_, rfl⟩ <;> omega
      clear hmin
      go_wp2_with fail
      refine (minLen_any a1 b1 n1 n1 n2 n2 n _ HM.out).mono ?_
      rintro e w3 ⟨rfl, hw⟩
      obtain rfl : wc = w3 := hw.symm
      clear hw
      go_wp2_with fail
      go_loopw [8] (fun i wr => ∃ t : Nat, t ≤ n ∧ i = .int .i64 t ∧ Hid (BoolsAt wr a1 n1 S ∧ IntsAt wr b1 n2 Z ∧ Below w.heap.size w wr)) (fun i _ => n - (intOf i).toNat)
      case atStart => exact ⟨0, Nat.zero_le _, rfl, HS2.out, HZ2.out, HB2.out⟩
      case round =>
        clear HS2 HZ2 HB2
        obtain ⟨t, ht, rfl, HR⟩ := hrel
        by_cases hlt : t < n
        case neg =>
          go_wp2_with fail
          go_ret
          exact ⟨rfl, HR.out.2.2⟩
        have ht0 : (0 : Int) ≤ (t : Int) := by omega
        have ht1 : (t : Int) < (n1 : Int) := by omega
        have ht2 : (t : Int) < (n2 : Int) := by omega
        have hwr : IntKind.i64.wrap ((t : Int) + 1) = (t : Int) + 1 := by rw [i64_wrap_in] <;> omega
        have hu1 : t < n1 := by omega
        have hu2 : t < n2 := by omega
        go_wp2_with fail
        refine (isSetAt_any a1 b1 n1 n1 n2 n2 t S Z _ hu1 hu2 HR.out.1 HR.out.2.1).mono ?_
        rintro e w3 ⟨rfl, hw⟩
        obtain rfl : wr = w3 := hw.symm
        clear hw
        obtain ⟨aS, hsl1, hcs⟩ := cut_one a1 n1 t 22 4 Try.underlying22 size4 hu1
        obtain ⟨bS, hsl2, hcb⟩ := cut_one b1 n2 t 23 3 Try.underlying23 size3 hu2
        have HS4 : Hid (BoolsAt wr.drew aS 1 fun i => S (t + i)) := hcs wr.drew _ HR.out.1.drew
        have HZ4 : Hid (IntsAt wr.drew bS 1 fun i => Z (t + i)) := hcb wr.drew _ HR.out.2.1.drew
        clear hcs hcb
        cases hSt : S t with
        | true =>
          have HT : Hid (S t = true) := hSt
          have HL : Hid (lst (fun i => S (t + i)) 1 = ((0 : Nat) : Int)) := lst_hit (by omega) HT.out (fun j hj => absurd hj (Nat.not_lt_zero _))
          clear hSt
          go_wp2_with fail
          go_region_held3 (fun w' => True) (trivial)
            ((go_at_call 10; refine (zzfirst_hit _ _ 1 _ 1 _ 1 0 (fun i => S (t + i)) (fun i => Z (t + i)) _ (by omega) (.inr ⟨Nat.le_refl _, rfl⟩) HS4.out HZ4.out (by omega) HL.out HT.out).mono ?_; rintro e w4 ⟨rfl, hB4⟩))
          have HR5 : Hid (BoolsAt w4 a1 n1 S ∧ IntsAt w4 b1 n2 Z ∧ Below w.heap.size w w4) := ⟨HR.out.1.drew.below hB4 (Nat.le_refl _), HR.out.2.1.drew.below hB4 (Nat.le_refl _), HR.out.2.2.drew.trans (hB4.mono HR.out.2.2.drew.size)⟩
          clear hB4 HR HS4 HZ4 hsl1 hsl2 HL
          obtain ⟨p, off, rfl, c⟩ := HR5.out.1.get hu1
          rw [HT.out] at c
          clear HT
          go_wp2_with fail
          go_roundw
          case rel => exact ⟨t + 1, by omega, by go_num, HR5.out⟩
          case measure => simp [intOf]; omega
        | false =>
          have HT : Hid (S t = false) := hSt
          have HL : Hid (lst (fun i => S (t + i)) 1 = -1) := lst_miss (fun j hj => by rw [show j = 0 by omega]; exact HT.out)
          clear hSt
          go_wp2_with fail
          go_region_held3 (fun w' => True) (trivial)
            ((go_at_call 10; refine (zzfirst_miss _ _ 1 _ 1 _ 1 (fun i => S (t + i)) (fun i => Z (t + i)) _ (by omega) (.inr ⟨Nat.le_refl _, rfl⟩) HS4.out HZ4.out HL.out).mono ?_; rintro e w4 ⟨rfl, hB4⟩))
          have HR5 : Hid (BoolsAt w4 a1 n1 S ∧ IntsAt w4 b1 n2 Z ∧ Below w.heap.size w w4) := ⟨HR.out.1.drew.below hB4 (Nat.le_refl _), HR.out.2.1.drew.below hB4 (Nat.le_refl _), HR.out.2.2.drew.trans (hB4.mono HR.out.2.2.drew.size)⟩
          clear hB4 HR HS4 HZ4 hsl1 hsl2 HL
          obtain ⟨p, off, rfl, c⟩ := HR5.out.1.get hu1
          rw [HT.out] at c
          clear HT
          go_wp2_with fail
          go_roundw
          case rel => exact ⟨t + 1, by omega, by go_num, HR5.out⟩
          case measure => simp [intOf]; omega

end Go.Proofs.Qxb6614698a
