import Derived.Test.Qxb6609042aWith
namespace Go.Proofs.Qxb6609042a
open Go.RowKit

/-- The first j permissions, x put in ahead of the k-th. -/
def putL (S M : Nat → ByteArray) (k : Nat) (x : ByteArray × ByteArray) (j : Nat) : List (ByteArray × ByteArray) := (List.range j).flatMap fun i => (if i = k then [x] else []) ++ [(S i, M i)]
theorem putL_hit (S M : Nat → ByteArray) (k : Nat) (x : ByteArray × ByteArray) : putL S M k x (k + 1) = putL S M k x k ++ [x] ++ [(S k, M k)] := by simp [putL, List.range_succ]
theorem putL_miss (S M : Nat → ByteArray) (k : Nat) (x : ByteArray × ByteArray) (j : Nat) (h : j ≠ k) : putL S M k x (j + 1) = putL S M k x j ++ [(S j, M j)] := by simp [putL, List.range_succ, h]
theorem putL_len (S M : Nat → ByteArray) (k : Nat) (x : ByteArray × ByteArray) (j : Nat) : (putL S M k x j).length = if k < j then j + 1 else j := by
  induction j with
  | zero => simp [putL]
  | succ j ih =>
    by_cases h : j = k
    · subst h; rw [putL_hit]; simp [ih]
    · rw [putL_miss _ _ _ _ _ h]
      simp only [List.length_append, ih, List.length_cons, List.length_nil]
      split <;> split <;> omega
/-- All n permissions with x put in at k ≤ n. -/
def putAll (S M : Nat → ByteArray) (k : Nat) (x : ByteArray × ByteArray) (n : Nat) : List (ByteArray × ByteArray) := putL S M k x n ++ if k = n then [x] else []
theorem putAll_len (S M : Nat → ByteArray) (k : Nat) (x : ByteArray × ByteArray) (n : Nat) (h : k ≤ n) : (putAll S M k x n).length = n + 1 := by
  unfold putAll
  rw [List.length_append, putL_len]
  by_cases e : k = n
  · subst e; simp
  · rw [if_pos (by omega), if_neg e]; rfl
theorem putAll_mem (S M : Nat → ByteArray) (k : Nat) (x : ByteArray × ByteArray) (n : Nat) (h : k ≤ n) : x ∈ putAll S M k x n := by
  unfold putAll
  by_cases e : k = n
  · simp [e]
  · refine List.mem_append_left _ ?_
    unfold putL
    exact List.mem_flatMap.2 ⟨k, List.mem_range.2 (by omega), by simp⟩
theorem flat_len (l : List (ByteArray × ByteArray)) : (flat l).length = l.length * 2 := by
  induction l with
  | nil => rfl
  | cons a l ih => simp only [flat, List.flatMap_cons, List.length_append, List.length_cons] at ih ⊢; simp only [List.length_nil]; omega

/-- The same over the append alone (a region that draws nothing). -/
theorem grow_plain {W wr w1 : World} {B g n cap : Nat} {o : Obj} (h : Below B W wr) (hs : B ≤ wr.heap.size) (hg : B ≤ g) (hgrow : (wr.alloc o).grownBy w1 (Value.slice (some ⟨g, 0, none⟩) n cap).ownBlock) : Below B W w1 := by
  refine (h.alloc hs o).grown hgrow (by simp; omega) ?_
  intro k hk
  simp [Value.ownBlock] at hk
  omega

set_option maxRecDepth 100000 in
set_option maxHeartbeats 6400000 in
theorem with_put (ad : Option Addr) (n cap k : Nat) (S M : Nat → ByteArray) (es em : ByteArray) (w : World) (hn : n ≤ 1048576) (hkn : k ≤ n) (hp : Pairs w ad n S M) :
    Calls Try.prog 6 #[.slice ad n cap, .int .i64 k, .bool true, .agg #[.string es, .string em]] w fun e w' => ∃ g cp, e = .returned (.slice (some ⟨g, 0, none⟩) (n + 1) cp) ∧
      w'.ownsRow (w.heap.size + 1) 31 2 (.slice (some ⟨g, 0, none⟩) (n + 1) cp) (n + 1) (flat (putAll S M k (es, em) n)) ∧ Below w.heap.size w w' := by
  obtain ⟨i0, hi0, hz0, hz1, hz2⟩ := info_parts info31
  have HP : Hid (Pairs w ad n S M) := hp
  clear hp
  have hbn : i0.bytes * (n + 1) ≤ 281474976710656 := by rw [hz2]; omega
  have hnm : n + 1 ≤ maxLen := by unfold maxLen; omega
  go_enter Try.func6, Try.ntmps6
  go_wp2_with (first | (at_make; refine wpList_make_own _ rfl _ _ 25 rfl (w.heap.size + 1) 31 i0 _ 2 Try.underlying25 hi0 hz0 hz1 .i64 .i64 _ (n + 1) rfl rfl (by omega) hbn hnm (by simp) ?_; intro w1 hown0 hgrow))
  have hB1 : Below (w.heap.size + 1) (w.alloc (.cells #[.string es, .string em] 28)) w1 := (Below.refl _ _).grown hgrow (by simp) (by intro k h; cases h)
  clear hgrow
  go_loopw [10, 11] (fun v i wr => ∃ (j g cp L : Nat), j ≤ n ∧ i = .int .i64 j ∧ v = .slice (some ⟨g, 0, none⟩) L cp ∧ L ≤ n + 1 ∧ Hid (L = (putL S M k (es, em) j).length) ∧ wr.ownsRow (w.heap.size + 1) 31 2 (.slice (some ⟨g, 0, none⟩) L cp) L (flat (putL S M k (es, em) j)) ∧
      Below (w.heap.size + 1) (w.alloc (.cells #[.string es, .string em] 28)) wr) (fun _ i _ => n - (intOf i).toNat)
  case atStart => exact ⟨0, _, _, 0, Nat.zero_le _, rfl, rfl, by omega, rfl, by simpa [putL, flat] using hown0, hB1⟩
  case round =>
    clear hown0 hB1
    obtain ⟨j, g, cp, L, hj, rfl, rfl, hL, HL, hown, hnx⟩ := hrel
    have hsz : w.heap.size + 1 ≤ wr.heap.size := by have := hnx.size; simpa using this
    have hgb : w.heap.size + 1 ≤ g := own_base hown
    by_cases hlt : j < n
    · rcases HP.out with h | ⟨p, off, rfl, h0, h1⟩
      · omega
      have b0 : p < w.heap.size := World.block_lt_of_cell? w _ (h0 j hlt)
      have e0 : (w.alloc (.cells #[.string es, .string em] 28)).cell? ⟨p, off + j * 2, none⟩ = some (.string (S j)) := (World.cell?_alloc_past _ _ _ b0).trans (h0 j hlt)
      have e1 : (w.alloc (.cells #[.string es, .string em] 28)).cell? ⟨p, off + j * 2 + 1, none⟩ = some (.string (M j)) := (World.cell?_alloc_past _ _ _ b0).trans (h1 j hlt)
      have ij0 : (0 : Int) ≤ (j : Int) := Int.natCast_nonneg _
      have ij1 : (j : Int) < (n : Int) := by omega
      have hpg : ¬ some p = some g := by intro h; cases h; omega
      have HE : Hid ((w.alloc (.cells #[.string es, .string em] 28)).cell? ⟨p, off + j * 2, none⟩ = some (.string (S j)) ∧ (w.alloc (.cells #[.string es, .string em] 28)).cell? ⟨p, off + j * 2 + 1, none⟩ = some (.string (M j))) := ⟨e0, e1⟩
      clear h0 h1 HP e0 e1
      by_cases hjk : j = k
      · subst hjk
        obtain rfl : L = j := by rw [HL.out, putL_len, if_neg (by omega)]
        have d0 : wr.cell? ⟨w.heap.size, 0, none⟩ = some (.string es) := (hnx.cell (p := ⟨w.heap.size, 0, none⟩) (Nat.lt_succ_self _)).trans (by simp)
        have d1 : wr.cell? ⟨w.heap.size, 1, none⟩ = some (.string em) := (hnx.cell (p := ⟨w.heap.size, 1, none⟩) (Nat.lt_succ_self _)).trans (by simp)
        clear HL
        go_wp2_with (at_builtin; refine wpList_append_lies _ rfl (.tmp 31) (.tmp 37) 25 rfl (w.heap.size + 1) 31 i0 _ 2 32 Try.underlying25 hi0 hz0 hz1 hz2 rfl (by omega) (.slice (some ⟨g, 0, none⟩) L cp) L (flat (putL S M L (es, em) L)) rfl (hown.alloc _) ⟨wr.heap.size, 0, none⟩ 1 1 [.string es, .string em] rfl rfl (World.news_of_block (cs := #[.string es, .string em]) (t := 31) (fr := (0, 0)) (heap_alloc_new wr _)) (by simp [Value.oneCell']) (by omega) (by unfold maxLen; omega) (by omega) (by simp; omega) (wr.heap.size + 1) (by simp) ?_; intro gg cap' w1 hown1 hgrow hat hlt1)
        have hB2 := grow_plain hnx hsz hgb hgrow
        clear hgrow hown hnx d0 d1 hgb hpg
        have hsz1 : w.heap.size + 1 ≤ w1.heap.size := by have := hB2.size; simpa using this
        have hgb : w.heap.size + 1 ≤ gg := own_base hown1
        have hpg : ¬ some p = some gg := by intro h; cases h; omega
        have c0 := (hB2.cell (p := ⟨p, off + L * 2, none⟩) (Nat.lt_succ_of_lt b0)).trans HE.out.1
        have c1 := (hB2.cell (p := ⟨p, off + L * 2 + 1, none⟩) (Nat.lt_succ_of_lt b0)).trans HE.out.2
        go_region_held3 (fun w' => w'.cell? ⟨p, off + L * 2, none⟩ = some (.string (S L)) ∧ w'.cell? ⟨p, off + L * 2 + 1, none⟩ = some (.string (M L)))
          (first
            | go_keep
            | (go_split_ands
               refine ⟨?_, ?_⟩
               · (rw [hgrow2.cell_far _ (by simp; omega) hpg]; assumption)
               · (rw [hgrow2.cell_far _ (by simp; omega) hpg]; assumption)))
          ((refine step_append_lies _ (by rfl) _ _ _ (by rfl) (w.heap.size + 1) 31 i0 _ 2 32 Try.underlying25 hi0 hz0 hz1 hz2 rfl (by omega) (.slice (some ⟨gg, 0, none⟩) (L + 1) cap') (L + 1) (flat (putL S M L (es, em) L) ++ [.string es, .string em]) (by rfl) ((hown1.alloc _).drew)
              ⟨w1.heap.size, 0, none⟩ 1 1 [.string (S L), .string (M L)] (by rfl) (by rfl) (World.news_of_block (cs := #[.string (S L), .string (M L)]) (t := 31) (fr := (0, 0)) (heap_alloc_new w1 _)) (by simp [Value.oneCell'])
              (by omega) (by unfold maxLen; omega) (by omega) (by simp; omega) (w1.heap.size + 1) (by simp) ?_; intro gg2 cap2 w2 hown2 hgrow2 hat2 hlt2))
        have hB3 := grow_step hB2 hsz1 hgb hgrow2
        go_wp2
        go_roundw
        case rel => exact ⟨L + 1, gg2, cap2, L + 1 + 1, by omega, by go_num, rfl, by omega, by show _ = _; rw [putL_len, if_pos (by omega)], by rw [putL_hit, flat_snoc, flat_snoc]; exact hown2, hB3⟩
        case measure => simp [intOf]; omega
      · have c0 := (hnx.cell (p := ⟨p, off + j * 2, none⟩) (Nat.lt_succ_of_lt b0)).trans HE.out.1
        have c1 := (hnx.cell (p := ⟨p, off + j * 2 + 1, none⟩) (Nat.lt_succ_of_lt b0)).trans HE.out.2
        have hl2 : L ≤ j + 1 ∧ L + 1 ≤ n + 1 := by
          have := HL.out
          rw [putL_len] at this
          split at this <;> omega
        go_wp2_with fail
        go_region_held3 (fun w' => w'.cell? ⟨p, off + j * 2, none⟩ = some (.string (S j)) ∧ w'.cell? ⟨p, off + j * 2 + 1, none⟩ = some (.string (M j)))
          (first
            | go_keep
            | (go_split_ands
               refine ⟨?_, ?_⟩
               · (rw [hgrow2.cell_far _ (by simp; omega) hpg]; assumption)
               · (rw [hgrow2.cell_far _ (by simp; omega) hpg]; assumption)))
          ((refine step_append_lies _ (by rfl) _ _ _ (by rfl) (w.heap.size + 1) 31 i0 _ 2 32 Try.underlying25 hi0 hz0 hz1 hz2 rfl (by omega) (.slice (some ⟨g, 0, none⟩) L cp) L (flat (putL S M k (es, em) j)) (by rfl) ((hown.alloc _).drew)
              ⟨wr.heap.size, 0, none⟩ 1 1 [.string (S j), .string (M j)] (by rfl) (by rfl) (World.news_of_block (cs := #[.string (S j), .string (M j)]) (t := 31) (fr := (0, 0)) (heap_alloc_new wr _)) (by simp [Value.oneCell'])
              (by omega) (by unfold maxLen; omega) (by omega) (by simp; omega) (wr.heap.size + 1) (by simp) ?_; intro gg2 cap2 w2 hown2 hgrow2 hat2 hlt2))
        have hB3 := grow_step hnx hsz hgb hgrow2
        go_wp2
        go_roundw
        case rel => exact ⟨j + 1, gg2, cap2, L + 1, by omega, by go_num, rfl, by omega, by show _ = _; rw [putL_miss _ _ _ _ _ hjk, List.length_append, ← HL.out]; rfl, by rw [putL_miss _ _ _ _ _ hjk, flat_snoc]; exact hown2, hB3⟩
        case measure => simp [intOf]; omega
    · obtain rfl : j = n := by omega
      by_cases hkj : k = j
      · subst hkj
        obtain rfl : L = k := by rw [HL.out, putL_len, if_neg (by omega)]
        have d0 : wr.cell? ⟨w.heap.size, 0, none⟩ = some (.string es) := (hnx.cell (p := ⟨w.heap.size, 0, none⟩) (Nat.lt_succ_self _)).trans (by simp)
        have d1 : wr.cell? ⟨w.heap.size, 1, none⟩ = some (.string em) := (hnx.cell (p := ⟨w.heap.size, 1, none⟩) (Nat.lt_succ_self _)).trans (by simp)
        clear HL
        go_wp2_with (at_builtin; refine wpList_append_lies _ rfl (.tmp 60) (.tmp 66) 25 rfl (w.heap.size + 1) 31 i0 _ 2 32 Try.underlying25 hi0 hz0 hz1 hz2 rfl (by omega) (.slice (some ⟨g, 0, none⟩) L cp) L (flat (putL S M L (es, em) L)) rfl (hown.alloc _) ⟨wr.heap.size, 0, none⟩ 1 1 [.string es, .string em] rfl rfl (World.news_of_block (cs := #[.string es, .string em]) (t := 31) (fr := (0, 0)) (heap_alloc_new wr _)) (by simp [Value.oneCell']) (by omega) (by unfold maxLen; omega) (by omega) (by simp; omega) (wr.heap.size + 1) (by simp) ?_; intro gg cap' w1 hown1 hgrow hat hlt1)
        have hB2 := grow_plain hnx hsz hgb hgrow
        go_ret
        refine ⟨gg, cap', rfl, ?_, ((Below.refl _ w).alloc (Nat.le_refl _) _).trans (hB2.mono (by omega))⟩
        unfold putAll
        rw [if_pos rfl, flat_snoc]
        exact hown1
      · obtain rfl : L = j + 1 := by rw [HL.out, putL_len, if_pos (by omega)]
        clear HL
        go_wp2
        go_ret
        refine ⟨g, cp, rfl, ?_, ((Below.refl _ w).alloc (Nat.le_refl _) _).trans (hnx.mono (by omega))⟩
        unfold putAll
        rw [if_neg hkj, List.append_nil]
        exact hown

end Go.Proofs.Qxb6609042a
