import Derived.Test.Qxb6609042aBounds
import Derived.Deep.RegionHeld3
import Derived.Deep.AppendLies
import Derived.Deep.DrawnRows
namespace Go.Proofs.Qxb6609042a
open Go.RowKit

theorem info31 : (Try.prog.info? 31).map (fun i => (i.zero, i.size, i.bytes)) = some (some (.agg #[.string ⟨#[]⟩, .string ⟨#[]⟩]), 2, 32) := by kernel_rfl

/-- The cells of a list of pairs of strings. -/
def flat (l : List (ByteArray × ByteArray)) : List Value := l.flatMap fun p => [.string p.1, .string p.2]
theorem flat_snoc (l : List (ByteArray × ByteArray)) (a b : ByteArray) : flat (l ++ [(a, b)]) = flat l ++ [.string a, .string b] := by simp [flat]
/-- The first j permissions as they are. -/
def plain (S M : Nat → ByteArray) (j : Nat) : List (ByteArray × ByteArray) := (List.range j).map fun i => (S i, M i)
theorem plain_len (S M : Nat → ByteArray) (j : Nat) : (plain S M j).length = j := by simp [plain]
theorem plain_succ (S M : Nat → ByteArray) (j : Nat) : plain S M (j + 1) = plain S M j ++ [(S j, M j)] := by simp [plain, List.range_succ]

/-- The relation's limb on old memory over one element laid in a block of its own, a draw, and the append. -/
theorem grow_step {W wr w1 : World} {B g n cap : Nat} {o : Obj} (h : Below B W wr) (hs : B ≤ wr.heap.size) (hg : B ≤ g) (hgrow : (wr.alloc o).drew.grownBy w1 (Value.slice (some ⟨g, 0, none⟩) n cap).ownBlock) : Below B W w1 := by
  refine ((h.alloc hs o).drew).grown hgrow (by show B ≤ (wr.alloc o).heap.size; simp; omega) ?_
  intro k hk
  simp [Value.ownBlock] at hk
  omega

theorem own_base {w : World} {base : Nat} {e : TypeId} {size g n cap : Nat} {xs : List Value} (h : w.ownsRow base e size (.slice (some ⟨g, 0, none⟩) n cap) n xs) : base ≤ g := by
  rcases h.2 with ⟨h, _⟩ | ⟨g', cap', cur, hv, hb, _⟩
  · cases h
  · cases hv; exact hb

set_option maxRecDepth 100000 in
set_option maxHeartbeats 3200000 in
theorem with_plain (ad : Option Addr) (n cap : Nat) (k : Int) (S M : Nat → ByteArray) (es em : ByteArray) (w : World) (hn : n ≤ 1048576) (hp : Pairs w ad n S M) :
    Calls Try.prog 6 #[.slice ad n cap, .int .i64 k, .bool false, .agg #[.string es, .string em]] w fun e w' => ∃ g cp, e = .returned (.slice (some ⟨g, 0, none⟩) n cp) ∧
      w'.ownsRow (w.heap.size + 1) 31 2 (.slice (some ⟨g, 0, none⟩) n cp) n (flat (plain S M n)) ∧ Below w.heap.size w w' := by
  obtain ⟨i0, hi0, hz0, hz1, hz2⟩ := info_parts info31
  have HP : Hid (Pairs w ad n S M) := hp
  clear hp
  have hbn : i0.bytes * n ≤ 281474976710656 := by rw [hz2]; omega
  have hnm : n ≤ maxLen := by unfold maxLen; omega
  go_enter Try.func6, Try.ntmps6
  go_wp2_with (first | (at_make; refine wpList_make_own _ rfl _ _ 25 rfl (w.heap.size + 1) 31 i0 _ 2 Try.underlying25 hi0 hz0 hz1 .i64 .i64 _ n rfl rfl (by omega) hbn hnm (by simp) ?_; intro w1 hown0 hgrow))
  have hB1 : Below (w.heap.size + 1) (w.alloc (.cells #[.string es, .string em] 28)) w1 := (Below.refl _ _).grown hgrow (by simp) (by intro k h; cases h)
  clear hgrow
  go_loopw [10, 11] (fun v i wr => ∃ (j g cp : Nat), j ≤ n ∧ i = .int .i64 j ∧ v = .slice (some ⟨g, 0, none⟩) j cp ∧ wr.ownsRow (w.heap.size + 1) 31 2 (.slice (some ⟨g, 0, none⟩) j cp) j (flat (plain S M j)) ∧
      Below (w.heap.size + 1) (w.alloc (.cells #[.string es, .string em] 28)) wr) (fun _ i _ => n - (intOf i).toNat)
  case atStart => exact ⟨0, _, _, Nat.zero_le _, rfl, rfl, by simpa [plain, flat] using hown0, hB1⟩
  case round =>
    clear hown0 hB1
    obtain ⟨j, g, cp, hj, rfl, rfl, hown, hnx⟩ := hrel
    have hsz : w.heap.size + 1 ≤ wr.heap.size := by have := hnx.size; simpa using this
    by_cases hlt : j < n
    · rcases HP.out with h | ⟨p, off, rfl, h0, h1⟩
      · omega
      have b0 : p < w.heap.size := World.block_lt_of_cell? w _ (h0 j hlt)
      have c0 : wr.cell? ⟨p, off + j * 2, none⟩ = some (.string (S j)) := ((hnx.cell (p := ⟨p, off + j * 2, none⟩) (Nat.lt_succ_of_lt b0)).trans (World.cell?_alloc_past _ _ _ b0)).trans (h0 j hlt)
      have c1 : wr.cell? ⟨p, off + j * 2 + 1, none⟩ = some (.string (M j)) := ((hnx.cell (p := ⟨p, off + j * 2 + 1, none⟩) (Nat.lt_succ_of_lt b0)).trans (World.cell?_alloc_past _ _ _ b0)).trans (h1 j hlt)
      have ij0 : (0 : Int) ≤ (j : Int) := Int.natCast_nonneg _
      have ij1 : (j : Int) < (n : Int) := by omega
      clear h0 h1 HP
      have hgb : w.heap.size + 1 ≤ g := own_base hown
      have hpg : ¬ some p = some g := by intro h; cases h; omega
      go_wp2_with fail
      go_region_held3 (fun w' => w'.cell? ⟨p, off + j * 2, none⟩ = some (.string (S j)) ∧ w'.cell? ⟨p, off + j * 2 + 1, none⟩ = some (.string (M j)))
        (first
          | go_keep
          | (go_split_ands
             refine ⟨?_, ?_⟩
             · (rw [hgrow.cell_far _ (by simp; omega) hpg]; assumption)
             · (rw [hgrow.cell_far _ (by simp; omega) hpg]; assumption)))
        ((refine step_append_lies _ (by rfl) _ _ _ (by rfl) (w.heap.size + 1) 31 i0 _ 2 32 Try.underlying25 hi0 hz0 hz1 hz2 rfl (by omega) (.slice (some ⟨g, 0, none⟩) j cp) j (flat (plain S M j)) (by rfl) ((hown.alloc _).drew)
            ⟨wr.heap.size, 0, none⟩ 1 1 [.string (S j), .string (M j)] (by rfl) (by rfl) (World.news_of_block (cs := #[.string (S j), .string (M j)]) (t := 31) (fr := (0, 0)) (heap_alloc_new wr _)) (by simp [Value.oneCell'])
            (by omega) (by unfold maxLen; omega) (by omega) (by simp; omega) (wr.heap.size + 1) (by simp) ?_; intro gg cap' w1 hown1 hgrow hat hlt1))
      have hB2 := grow_step hnx hsz hgb hgrow
      go_wp2
      go_roundw
      case rel => exact ⟨j + 1, gg, cap', by omega, by go_num, rfl, by rw [plain_succ, flat_snoc]; exact hown1, hB2⟩
      case measure => simp [intOf]; omega
    · have hjn : j = n := by omega
      subst hjn
      go_wp2
      go_ret
      refine ⟨g, cp, rfl, hown, ?_⟩
      exact ((Below.refl _ w).alloc (Nat.le_refl _) _).trans (hnx.mono (by omega))

end Go.Proofs.Qxb6609042a
