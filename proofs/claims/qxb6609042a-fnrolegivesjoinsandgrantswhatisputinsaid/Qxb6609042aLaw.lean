import Derived.Test.Qxb6609042aPut
namespace Go.Proofs.Qxb6609042a
open Go.RowKit

theorem flat_get (l : List (ByteArray × ByteArray)) (i : Nat) : (flat l)[i * 2]? = (l[i]?).map (fun p => Value.string p.1) ∧ (flat l)[i * 2 + 1]? = (l[i]?).map (fun p => Value.string p.2) := by
  induction l generalizing i with
  | nil => simp [flat]
  | cons a l ih =>
    have e : flat (a :: l) = .string a.1 :: .string a.2 :: flat l := rfl
    rw [e]
    cases i with
    | zero => simp
    | succ i =>
      have h1 : (i + 1) * 2 = i * 2 + 1 + 1 := by omega
      rw [h1]
      simpa using ih i

/-- From the owned row to pairs of strings, read from the k-th on. -/
theorem pairs_own {w : World} {base g n cp : Nat} {l : List (ByteArray × ByteArray)} (h : w.ownsRow base 31 2 (.slice (some ⟨g, 0, none⟩) n cp) n (flat l)) (S M : Nat → ByteArray) (k c o : Nat) (ho : o = k * 2) (hk : k + c ≤ n)
    (hS : ∀ i, i < c → l[k + i]? = some (S i, M i)) : Pairs w (some ⟨g, o, none⟩) c S M := by
  subst ho
  refine .inr ⟨g, k * 2, rfl, fun i hi => ?_, fun i hi => ?_⟩
  · have := (flat_get l (k + i)).1
    rw [show k * 2 + i * 2 = (k + i) * 2 by omega, h.cellAt _ (by omega), this, hS i hi]
    rfl
  · have := (flat_get l (k + i)).2
    rw [show k * 2 + i * 2 + 1 = (k + i) * 2 + 1 by omega, h.cellAt _ (by omega), this, hS i hi]
    rfl

theorem Pairs.lt {w : World} {ad : Option Addr} {n : Nat} {S M : Nat → ByteArray} (h : Pairs w ad n S M) : ∀ p off, ad = some ⟨p, off, none⟩ → 0 < n → p < w.heap.size := by
  intro p off e hn
  rcases h with h | ⟨p', off', e', h0, _⟩
  · omega
  · rw [e] at e'
    cases e'
    exact World.block_lt_of_cell? w _ (h0 0 hn)
theorem plain_get (S M : Nat → ByteArray) (n i : Nat) (h : i < n) : (plain S M n)[i]? = some (S i, M i) := by simp [plain, h]

theorem gives_split (S M : Nat → ByteArray) (n k : Nat) (s m : ByteArray) (h : k ≤ n) : givesB S M n s m = (givesB S M k s m || givesB (fun i => S (k + i)) (fun i => M (k + i)) (n - k) s m) := by
  unfold givesB
  have e : List.range n = List.range k ++ (List.range (n - k)).map (k + ·) := by
    have := @List.range_add k (n - k)
    rwa [show k + (n - k) = n by omega] at this
  rw [e, List.any_append, List.any_map]
  rfl

theorem gives_put (l : List (ByteArray × ByteArray)) (s m : ByteArray) (h : (s, m) ∈ l) : givesB (fun i => (l.getD i default).1) (fun i => (l.getD i default).2) l.length s m = true := by
  obtain ⟨i, hi, e⟩ := List.getElem_of_mem h
  refine any_true (k := i) hi ?_
  simp [List.getD, hi, e, mt_self]

theorem own_lt {w : World} {base : Nat} {e : TypeId} {size g n cap : Nat} {xs : List Value} (h : w.ownsRow base e size (.slice (some ⟨g, 0, none⟩) n cap) n xs) : g < w.heap.size := by
  rcases h.2 with ⟨h, _⟩ | ⟨g', cap', cur, hv, hb, hg, _⟩
  · cases h
  · cases hv
    rcases Nat.lt_or_ge g w.heap.size with hlt | hge
    · exact hlt
    · rw [Array.getElem?_eq_none hge] at hg; cases hg
theorem own_cap {w : World} {base : Nat} {e : TypeId} {size g n cap : Nat} {xs : List Value} (h : w.ownsRow base e size (.slice (some ⟨g, 0, none⟩) n cap) n xs) : n ≤ cap := by
  rcases h.2 with ⟨h, _⟩ | ⟨g', cap', cur, hv, hb, hg, hc, _⟩
  · cases h
  · cases hv; exact hc

set_option maxRecDepth 100000 in
set_option maxHeartbeats 3200000 in
theorem law_in (ad : Option Addr) (n cap k : Nat) (S M : Nat → ByteArray) (s m : ByteArray) (w : World) (hp : Pairs w ad n S M) (hkn : k ≤ n) :
    Calls Try.prog 3 #[.slice ad n cap, .int .i64 k, .string s, .string m] w fun e w' => e = .returned (.bool true) ∧ Below w.heap.size w w' := by
  have HP : Hid (Pairs w ad n S M) := hp
  clear hp
  go_enter Try.func3, Try.ntmps3
  go_wp2_with fail
  refine (bytes_any ad n cap k S M s m _ HP.out).mono ?_
  rintro e w0 ⟨⟨b, rfl, hb⟩, hw⟩
  obtain rfl : w = w0 := hw.symm
  clear hw
  cases b with
  | false =>
    go_wp2_with fail
    go_ret
    exact ⟨rfl, Below.refl _ _⟩
  | true =>
  have hn : n ≤ 1048576 := hb rfl
  clear hb
  go_wp2_with fail
  refine (over_any ad n cap S M s m _ hn HP.out).mono ?_
  rintro e w1 ⟨⟨b, rfl⟩, hB1⟩
  cases b with
  | true =>
    go_wp2_with fail
    go_ret
    exact ⟨rfl, hB1⟩
  | false =>
  have hP1 := HP.out.below hB1 HP.out.lt
  have HP1 : Hid (Pairs w1 ad n S M) := hP1
  clear hP1 HP
  go_wp2_with fail
  refine (with_plain ad n cap 0 S M ⟨#[]⟩ ⟨#[]⟩ _ hn HP1.out).mono ?_
  rintro e w2 ⟨g, cp, rfl, hown, hB2⟩
  have hgl : g < w2.heap.size := own_lt hown
  have Q0 : Hid (Pairs w2 (some ⟨g, 0, none⟩) n S M) := pairs_own hown S M 0 n 0 rfl (by omega) (fun i hi => by rw [Nat.zero_add]; exact plain_get S M n i hi)
  have Q1 : Hid (Pairs w2 (some ⟨g, 0, none⟩) k S M) := pairs_own hown S M 0 k 0 rfl (by omega) (fun i hi => by rw [Nat.zero_add]; exact plain_get S M n i (by omega))
  have Q2 : Hid (Pairs w2 (some ⟨g, k * 2, none⟩) (n - k) (fun i => S (k + i)) (fun i => M (k + i))) := pairs_own hown _ _ k (n - k) (k * 2) rfl (by omega) (fun i hi => plain_get S M n (k + i) (by omega))
  have hcap : n ≤ cp := own_cap hown
  clear hown
  go_wp2_with fail
  refine (roleGives_any n cp (some ⟨g, 0, none⟩) S M s m _ (by omega) Q0.out (fun p off e _ => by cases e; exact hgl)).mono ?_
  rintro e w3 ⟨rfl, hB3⟩
  have hz3 : w2.heap.size ≤ w3.heap.size := hB3.size
  have Q1' : Hid (Pairs w3 (some ⟨g, 0, none⟩) k S M) := Q1.out.below hB3 (fun p off e _ => by cases e; exact hgl)
  have Q2' : Hid (Pairs w3 (some ⟨g, k * 2, none⟩) (n - k) (fun i => S (k + i)) (fun i => M (k + i))) := Q2.out.below hB3 (fun p off e _ => by cases e; exact hgl)
  clear Q0 Q1 Q2
  go_wp2_with fail
  refine (roleGives_any k cp (some ⟨g, 0, none⟩) S M s m _ (by omega) Q1'.out (fun p off e _ => by cases e; omega)).mono ?_
  rintro e w4 ⟨rfl, hB4⟩
  have hz4 : w3.heap.size ≤ w4.heap.size := hB4.size
  have Q2'' : Hid (Pairs w4 (some ⟨g, k * 2, none⟩) (n - k) (fun i => S (k + i)) (fun i => M (k + i))) := Q2'.out.below hB4 (fun p off e _ => by cases e; omega)
  clear Q1' Q2'
  by_cases hck : k = cp
  · have hnk : n = k := by omega
    subst hck
    subst hnk
    go_wp2_with fail
    refine (roleGives_any 0 0 (some ⟨g, 0, none⟩) (fun i => S (n + i)) (fun i => M (n + i)) s m _ (by omega) (.inl rfl) (fun p off e h => by omega)).mono ?_
    rintro e w5 ⟨rfl, hB5⟩
    have hz5 : w4.heap.size ≤ w5.heap.size := hB5.size
    have hz1 : w.heap.size ≤ w1.heap.size := hB1.size
    have hz2 : w1.heap.size ≤ w2.heap.size := hB2.size
    have hB15 : Below w1.heap.size w1 w5 := ((hB2.trans (hB3.mono hz2)).trans (hB4.mono (by omega))).trans (hB5.mono (by omega))
    have HP5 : Hid (Pairs w5 ad n S M) := HP1.out.below hB15 HP1.out.lt
    clear Q2'' HP1
    go_wp2_with fail
    refine (with_put ad n cap n S M s m _ hn (Nat.le_refl _) HP5.out).mono ?_
    rintro e w6 ⟨g6, cp6, rfl, hown6, hB6⟩
    have hgl6 : g6 < w6.heap.size := own_lt hown6
    have hl6 := putAll_len S M n (s, m) n (Nat.le_refl _)
    have Q6 : Hid (Pairs w6 (some ⟨g6, 0, none⟩) (n + 1) (fun i => ((putAll S M n (s, m) n).getD i default).1) (fun i => ((putAll S M n (s, m) n).getD i default).2)) := pairs_own hown6 _ _ 0 (n + 1) 0 rfl (by omega) (fun i hi => by rw [Nat.zero_add]; simp [List.getD, hl6, hi])
    have G6 : givesB (fun i => ((putAll S M n (s, m) n).getD i default).1) (fun i => ((putAll S M n (s, m) n).getD i default).2) (n + 1) s m = true := by
      have := gives_put (putAll S M n (s, m) n) s m (putAll_mem S M n (s, m) n (Nat.le_refl _))
      rwa [hl6] at this
    have hz6 : w5.heap.size ≤ w6.heap.size := hB6.size
    clear hown6 hl6
    go_wp2_with fail
    refine (roleGives_any (n + 1) cp6 (some ⟨g6, 0, none⟩) _ _ s m _ (by omega) Q6.out (fun p off e _ => by cases e; exact hgl6)).mono ?_
    rintro e w7 ⟨rfl, hB7⟩
    rw [G6]
    have hB17 : Below w1.heap.size w1 w7 := (hB15.trans (hB6.mono (by omega))).trans (hB7.mono (by omega))
    have hfin : Below w.heap.size w w7 := hB1.trans (hB17.mono hz1)
    rw [show givesB (fun i => S (n + i)) (fun i => M (n + i)) 0 s m = false from rfl]
    generalize givesB S M n s m = L
    cases L
    all_goals
      go_wp2_with fail
      go_ret
      exact ⟨rfl, hfin⟩
  · have hck' : ¬ (k : Int) = (cp : Int) := by omega
    go_wp2_with fail
    refine (roleGives_any (n - k) (cp - k) (some ⟨g, k * 2, none⟩) (fun i => S (k + i)) (fun i => M (k + i)) s m _ (by omega) Q2''.out (fun p off e h => by cases e; omega)).mono ?_
    rintro e w5 ⟨rfl, hB5⟩
    have hz5 : w4.heap.size ≤ w5.heap.size := hB5.size
    have hz1 : w.heap.size ≤ w1.heap.size := hB1.size
    have hz2 : w1.heap.size ≤ w2.heap.size := hB2.size
    have hB15 : Below w1.heap.size w1 w5 := ((hB2.trans (hB3.mono hz2)).trans (hB4.mono (by omega))).trans (hB5.mono (by omega))
    have HP5 : Hid (Pairs w5 ad n S M) := HP1.out.below hB15 HP1.out.lt
    clear Q2'' HP1
    go_wp2_with fail
    refine (with_put ad n cap k S M s m _ hn hkn HP5.out).mono ?_
    rintro e w6 ⟨g6, cp6, rfl, hown6, hB6⟩
    have hgl6 : g6 < w6.heap.size := own_lt hown6
    have hl6 := putAll_len S M k (s, m) n hkn
    have Q6 : Hid (Pairs w6 (some ⟨g6, 0, none⟩) (n + 1) (fun i => ((putAll S M k (s, m) n).getD i default).1) (fun i => ((putAll S M k (s, m) n).getD i default).2)) := pairs_own hown6 _ _ 0 (n + 1) 0 rfl (by omega) (fun i hi => by rw [Nat.zero_add]; simp [List.getD, hl6, hi])
    have G6 : givesB (fun i => ((putAll S M k (s, m) n).getD i default).1) (fun i => ((putAll S M k (s, m) n).getD i default).2) (n + 1) s m = true := by
      have := gives_put (putAll S M k (s, m) n) s m (putAll_mem S M k (s, m) n hkn)
      rwa [hl6] at this
    have hz6 : w5.heap.size ≤ w6.heap.size := hB6.size
    clear hown6 hl6
    go_wp2_with fail
    refine (roleGives_any (n + 1) cp6 (some ⟨g6, 0, none⟩) _ _ s m _ (by omega) Q6.out (fun p off e _ => by cases e; exact hgl6)).mono ?_
    rintro e w7 ⟨rfl, hB7⟩
    rw [G6]
    have hB17 : Below w1.heap.size w1 w7 := (hB15.trans (hB6.mono (by omega))).trans (hB7.mono (by omega))
    have hfin : Below w.heap.size w w7 := hB1.trans (hB17.mono hz1)
    rw [gives_split S M n k s m hkn]
    generalize givesB S M k s m = L
    generalize givesB (fun i => S (k + i)) (fun i => M (k + i)) (n - k) s m = R
    cases L <;> cases R
    all_goals
      go_wp2_with fail
      go_ret
      exact ⟨rfl, hfin⟩

set_option maxRecDepth 100000 in
set_option maxHeartbeats 3200000 in
theorem law_out (ad : Option Addr) (n cap : Nat) (k : Int) (S M : Nat → ByteArray) (s m : ByteArray) (w : World) (hp : Pairs w ad n S M) (hk : k < 0 ∨ (n : Int) < k) :
    Calls Try.prog 3 #[.slice ad n cap, .int .i64 k, .string s, .string m] w fun e w' => e = .returned (.bool true) ∧ Below w.heap.size w w' := by
  have HP : Hid (Pairs w ad n S M) := hp
  clear hp
  go_enter Try.func3, Try.ntmps3
  go_wp2_with fail
  refine (bytes_any ad n cap k S M s m _ HP.out).mono ?_
  rintro e w0 ⟨⟨b, rfl, hb⟩, hw⟩
  obtain rfl : w = w0 := hw.symm
  clear hw
  cases b with
  | false =>
    go_wp2_with fail
    go_ret
    exact ⟨rfl, Below.refl _ _⟩
  | true =>
  have hn : n ≤ 1048576 := hb rfl
  clear hb
  go_wp2_with fail
  refine (over_any ad n cap S M s m _ hn HP.out).mono ?_
  rintro e w1 ⟨⟨b, rfl⟩, hB1⟩
  cases b with
  | true =>
    go_wp2_with fail
    go_ret
    exact ⟨rfl, hB1⟩
  | false =>
  rcases hk with h | h
  · go_wp2_with fail
    go_ret
    exact ⟨rfl, hB1⟩
  · have h0 : ¬ k < 0 := by omega
    go_wp2_with fail
    go_ret
    exact ⟨rfl, hB1⟩

theorem law_any (ad : Option Addr) (n cap : Nat) (k : Int) (S M : Nat → ByteArray) (s m : ByteArray) (w : World) (hp : Pairs w ad n S M) :
    Calls Try.prog 3 #[.slice ad n cap, .int .i64 k, .string s, .string m] w fun e w' => e = .returned (.bool true) ∧ Below w.heap.size w w' := by
  by_cases h : 0 ≤ k ∧ k ≤ n
  · obtain ⟨j, rfl⟩ := Int.eq_ofNat_of_zero_le h.1
    exact law_in ad n cap j S M s m w hp (by omega)
  · exact law_out ad n cap k S M s m w hp (by omega)

end Go.Proofs.Qxb6609042a
