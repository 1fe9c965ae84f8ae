/-
  THE PLAIN PART: the canonical row of a list of words: each word's members, ascending. No Go walk here.
-/
import Derived.Test.Qxb6627971aWords
namespace Go.Proofs.Qxb6627971a

/-- What is known of the words of a row. -/
structure Good (p : List (Int × Int)) : Prop where
  asc : p.Pairwise (fun a b => a.1 < b.1)
  rg : ∀ q ∈ p, 0 ≤ q.2 ∧ q.2 < 18446744073709551616
  ne : ∀ q ∈ p, bitsOf q.2 ≠ []

theorem bits_put_ne (s k : Int) (hs0 : 0 ≤ s) (hs1 : s < 18446744073709551616) (hk0 : 0 ≤ k) (hk1 : k < 64) : bitsOf (orB s k) ≠ [] := by
  have h : k.toNat ∈ bitsOf (orB s k) := by
    unfold bitsOf bitsTo
    rw [List.mem_filter]
    refine ⟨List.mem_range.2 (by omega), ?_⟩
    rw [orB_nat s k hs0 hs1 hk0 hk1, testBit_put]; simp
  intro e; rw [e] at h; simp at h
theorem Good.nil : Good [] := ⟨List.Pairwise.nil, by simp, by simp⟩
theorem Good.add {p : List (Int × Int)} {x : Int} (h : Good p) (hq : ∀ q, p.getLast? = some q → q.1 ≤ x / 64) : Good (addW p x) := by
  have hk0 : 0 ≤ x % 64 := by omega
  have hk1 : x % 64 < 64 := by omega
  rcases snoc_cases p with rfl | ⟨r, q, rfl⟩
  · rw [addW_nil]
    refine ⟨List.pairwise_singleton _ _, fun q hq => ?_, fun q hq => ?_⟩
    · simp at hq; subst hq; exact orB_lt 0 _ (by decide) (by decide) hk0 hk1
    · simp at hq; subst hq; exact bits_put_ne 0 _ (by decide) (by decide) hk0 hk1
  · have hle := hq q (by simp)
    have hqr := h.rg q (by simp)
    have ha := List.pairwise_append.1 h.asc
    by_cases e : q.1 = x / 64
    · rw [addW_same r q x e]
      refine ⟨List.pairwise_append.2 ⟨ha.1, List.pairwise_singleton _ _, fun a ha' b hb => ?_⟩, fun u hu => ?_, fun u hu => ?_⟩
      · simp at hb; subst hb; exact ha.2.2 a ha' q (by simp)
      · rcases List.mem_append.1 hu with hu | hu
        · exact h.rg u (List.mem_append_left _ hu)
        · simp at hu; subst hu; exact orB_lt _ _ hqr.1 hqr.2 hk0 hk1
      · rcases List.mem_append.1 hu with hu | hu
        · exact h.ne u (List.mem_append_left _ hu)
        · simp at hu; subst hu; exact bits_put_ne _ _ hqr.1 hqr.2 hk0 hk1
    · rw [addW_new r q x e]
      refine ⟨List.pairwise_append.2 ⟨h.asc, List.pairwise_singleton _ _, fun a ha' b hb => ?_⟩, fun u hu => ?_, fun u hu => ?_⟩
      · simp at hb; subst hb
        show a.1 < x / 64
        rcases List.mem_append.1 ha' with hm | hm
        · have := ha.2.2 a hm q (by simp); omega
        · simp at hm; subst hm; omega
      · rcases List.mem_append.1 hu with hu | hu
        · exact h.rg u hu
        · simp at hu; subst hu; exact orB_lt 0 _ (by decide) (by decide) hk0 hk1
      · rcases List.mem_append.1 hu with hu | hu
        · exact h.ne u hu
        · simp at hu; subst hu; exact bits_put_ne 0 _ (by decide) (by decide) hk0 hk1
theorem wds_good {f : Nat → Int} {n : Nat} (hd : Dom f n) (i : Nat) (hi : i ≤ n) : Good (wds f i) := by
  induction i with
  | zero => exact Good.nil
  | succ i ih => exact (ih (by omega)).add (wds_in hd (by omega))

/-- The members of word u below bit k. -/
def mem1 (u s : Int) (k : Nat) : List Int := (bitsTo s.toNat k).map (fun k : Nat => u * 64 + (k : Int))
theorem mem1_succ (u s : Int) (k : Nat) : mem1 u s (k + 1) = mem1 u s k ++ if s.toNat.testBit k = true then [u * 64 + (k : Int)] else [] := by
  unfold mem1
  rw [bitsTo_succ, List.map_append]
  split <;> rfl
theorem mem1_len (u s : Int) (k : Nat) : (mem1 u s k).length ≤ k := by
  unfold mem1 bitsTo
  rw [List.length_map]
  exact Nat.le_trans (List.length_filter_le _ _) (by simp)
theorem mem1_in (u s : Int) (k : Nat) (x : Int) (h : x ∈ mem1 u s k) : x / 64 = u ∨ 64 < k := by
  unfold mem1 at h
  obtain ⟨j, hj, rfl⟩ := List.mem_map.1 h
  have := bitsTo_lt _ _ _ hj
  omega
/-- The first j words' members. -/
def mems (p : List (Int × Int)) (j : Nat) : List Int := (p.take j).flatMap (fun q => mem1 q.1 q.2 64)
theorem pair_snoc (p : List (Int × Int)) (j : Nat) (h : j < p.length) : p.take (j + 1) = p.take j ++ [p.getD j (0, 0)] := by
  rw [List.take_succ_eq_append_getElem h]
  simp [List.getElem?_eq_getElem h]
theorem mems_succ (p : List (Int × Int)) (j : Nat) (h : j < p.length) : mems p (j + 1) = mems p j ++ mem1 (p.getD j (0, 0)).1 (p.getD j (0, 0)).2 64 := by
  unfold mems
  rw [pair_snoc p j h, List.flatMap_append]; simp
theorem mems_len (p : List (Int × Int)) (j : Nat) (h : j ≤ p.length) : (mems p j).length ≤ 64 * j := by
  induction j with
  | zero => simp [mems]
  | succ j ih =>
    rw [mems_succ p j (by omega), List.length_append]
    have := mem1_len (p.getD j (0, 0)).1 (p.getD j (0, 0)).2 64
    have := ih (by omega)
    omega

theorem low_put (s k : Nat) (h : s.testBit k = true) : s % 2 ^ (k + 1) = (s % 2 ^ k) ||| 2 ^ k := by
  apply Nat.eq_of_testBit_eq
  intro i
  rw [testBit_put, Nat.testBit_mod_two_pow, Nat.testBit_mod_two_pow]
  by_cases e : k = i
  · subst e; simp [h]
  · have e1 : decide (i < k + 1) = decide (i < k) := by
      by_cases hi : i < k
      · simp [hi]; omega
      · simp [hi]; omega
    simp [e, e1]
theorem low_same (s k : Nat) (h : s.testBit k = false) : s % 2 ^ (k + 1) = s % 2 ^ k := by
  apply Nat.eq_of_testBit_eq
  intro i
  rw [Nat.testBit_mod_two_pow, Nat.testBit_mod_two_pow]
  by_cases e : k = i
  · subst e; simp [h]
  · have e1 : decide (i < k + 1) = decide (i < k) := by
      by_cases hi : i < k
      · simp [hi]; omega
      · simp [hi]; omega
    rw [e1]

/-- One word's members, added: the word comes about. -/
theorem mem1_fold (p : List (Int × Int)) (u s : Int) (hl : ∀ r, p.getLast? = some r → r.1 ≠ u) (k : Nat) (hk : k ≤ 64) :
    (mem1 u s k).foldl addW p = if mem1 u s k = [] then p else p ++ [(u, ((s.toNat % 2 ^ k : Nat) : Int))] := by
  induction k with
  | zero => simp [mem1, bitsTo]
  | succ k ih =>
    have ih := ih (by omega)
    have hd : (u * 64 + (k : Int)) / 64 = u := by omega
    have hm : (u * 64 + (k : Int)) % 64 = k := by omega
    rw [mem1_succ]
    by_cases tb : s.toNat.testBit k = true
    · rw [if_pos tb, List.foldl_append, ih]
      rw [if_neg (show ¬ mem1 u s k ++ [u * 64 + (k : Int)] = [] from by simp)]
      have hlow := low_put s.toNat k tb
      have hle : s.toNat % 2 ^ k < 18446744073709551616 := by
        have h1 : s.toNat % 2 ^ k < 2 ^ k := Nat.mod_lt _ (Nat.pow_pos (by decide))
        have h2 : 2 ^ k ≤ 2 ^ 64 := Nat.pow_le_pow_right (by decide) (by omega)
        have h3 : (2 : Nat) ^ 64 = 18446744073709551616 := by decide
        omega
      show addW _ _ = _
      by_cases he : mem1 u s k = []
      · rw [if_pos he]
        have hz : s.toNat % 2 ^ k = 0 := by
          apply Nat.eq_of_testBit_eq
          intro i
          rw [Nat.testBit_mod_two_pow, Nat.zero_testBit]
          by_cases hi : i < k
          · have : i ∉ bitsTo s.toNat k := by
              unfold mem1 at he
              rw [List.map_eq_nil_iff.1 he]; simp
            unfold bitsTo at this
            rw [List.mem_filter] at this
            have h4 : s.toNat.testBit i ≠ true := fun h => this ⟨List.mem_range.2 hi, h⟩
            simp [h4]
          · simp [hi]
        rw [hz] at hlow
        have hor : orB 0 ((u * 64 + (k : Int)) % 64) = ((s.toNat % 2 ^ (k + 1) : Nat) : Int) := by
          rw [hm, orB_eq 0 _ (by decide) (by decide) (by omega) (by omega), hlow]; simp
        rcases snoc_cases p with rfl | ⟨r, q, rfl⟩
        · rw [addW_nil, hd, hor]; rfl
        · have := hl q (by simp)
          rw [addW_new r q _ (by rw [hd]; exact this), hd, hor]
      · rw [if_neg he, addW_same p _ _ (by rw [hd]), hm, orB_eq _ _ (by omega) (by omega) (by omega) (by omega), hlow]
        rfl
    · have tf : s.toNat.testBit k = false := by simpa using tb
      rw [if_neg tb, List.append_nil, low_same _ _ tf]
      exact ih

theorem mems_fold {p : List (Int × Int)} (h : Good p) (j : Nat) (hj : j ≤ p.length) : (mems p j).foldl addW [] = p.take j := by
  induction j with
  | zero => simp [mems]
  | succ j ih =>
    have hjl : j < p.length := by omega
    have hmem : p.getD j (0, 0) ∈ p := by
      rw [List.getD_eq_getElem?_getD, List.getElem?_eq_getElem hjl]; exact List.getElem_mem hjl
    have ha := h.asc.sublist (List.take_sublist (j + 1) p)
    rw [pair_snoc p j hjl] at ha
    have hlt := (List.pairwise_append.1 ha).2.2
    have hr := h.rg _ hmem
    have hn := h.ne _ hmem
    rw [mems_succ p j hjl, List.foldl_append, ih (by omega), pair_snoc p j hjl]
    generalize p.getD j (0, 0) = q at *
    rw [mem1_fold (p.take j) q.1 q.2 (fun r hr' => by have := hlt r (List.mem_of_getLast? hr') q (by simp); omega) 64 (Nat.le_refl _)]
    rw [if_neg (by unfold mem1; intro e; exact hn (List.map_eq_nil_iff.1 e))]
    have h3 : (2 : Nat) ^ 64 = 18446744073709551616 := by decide
    rw [Nat.mod_eq_of_lt (by omega)]
    congr 2
    show (q.1, ((q.2.toNat : Nat) : Int)) = q
    rw [Int.toNat_of_nonneg hr.1]
theorem wds_list (l : List Int) (i : Nat) (hi : i ≤ l.length) : wds (fun j => l.getD j 0) i = (l.take i).foldl addW [] := by
  induction i with
  | zero => rfl
  | succ i ih =>
    show addW (wds _ i) (l.getD i 0) = _
    rw [ih (by omega), take_snoc l i (by omega), List.foldl_append]; rfl
theorem addW_mono (p : List (Int × Int)) (x : Int) : p.length ≤ (addW p x).length := by
  rcases snoc_cases p with rfl | ⟨r, q, rfl⟩
  · simp
  · by_cases h : q.1 = x / 64
    · rw [addW_same r q x h]; simp
    · rw [addW_new r q x h]; simp
theorem wds_mono (f : Nat → Int) (i j : Nat) (h : i ≤ j) : (wds f i).length ≤ (wds f j).length := by
  induction j with
  | zero => obtain rfl : i = 0 := by omega
            exact Nat.le_refl _
  | succ j ih =>
    by_cases e : i = j + 1
    · subst e; exact Nat.le_refl _
    · exact Nat.le_trans (ih (by omega)) (addW_mono _ _)
theorem Words.add' {p : List (Int × Int)} {x : Int} (h : Words p) (hl : (addW p x).length ≤ 65536) (hx0 : 0 ≤ x) (hx1 : x ≤ 2147483647) (hq : ∀ q, p.getLast? = some q → q.1 ≤ x / 64) : Words (addW p x) := by
  refine ⟨?_, hl, ?_⟩
  · rcases snoc_cases p with rfl | ⟨r, q, rfl⟩
    · exact (Iv.zero).word (x / 64) (orB 0 (x % 64)) (by omega) (fun h => absurd rfl h)
    · have := hq q (by simp)
      by_cases e : q.1 = x / 64
      · rw [addW_same r q x e]
        have hi := h.iv
        rw [ofWords_snoc] at hi
        have := hi.mask (orB q.2 (x % 64))
        rw [ofWords_snoc]
        simpa using this
      · rw [addW_new r q x e, ofWords_snoc, List.map_append]
        refine h.iv.word (x / 64) _ (by omega) (fun _ => ?_)
        rw [map_last]; omega
  · intro q' hq'
    rcases snoc_cases p with rfl | ⟨r, q, rfl⟩
    · rw [addW_nil] at hq'; simp at hq'; subst hq'
      exact ⟨by show 0 ≤ x / 64; omega, by show x / 64 ≤ _; omega⟩
    · by_cases e : q.1 = x / 64
      · rw [addW_same r q x e] at hq'
        rcases List.mem_append.1 hq' with hm | hm
        · exact h.hi q' (List.mem_append_left _ hm)
        · simp at hm; subst hm; exact h.hi q (by simp)
      · rw [addW_new r q x e] at hq'
        rcases List.mem_append.1 hq' with hm | hm
        · exact h.hi q' hm
        · simp at hm; subst hm
          exact ⟨by show 0 ≤ x / 64; omega, by show x / 64 ≤ _; omega⟩
theorem wds_words' {f : Nat → Int} {n : Nat} (hd : Dom f n) (hl : (wds f n).length ≤ 65536) (i : Nat) (hi : i ≤ n) : Words (wds f i) := by
  induction i with
  | zero => exact Words.nil
  | succ i ih =>
    have hx := hd i (by omega)
    exact (ih (by omega)).add' (Nat.le_trans (wds_mono f (i + 1) n hi) hl) hx.1 hx.2.1 (wds_in hd (by omega))

/-- The canonical row: all members, ascending. -/
def canon (p : List (Int × Int)) : List Int := mems p p.length
theorem canon_words {p : List (Int × Int)} (h : Good p) : wds (fun j => (canon p).getD j 0) (canon p).length = p := by
  rw [wds_list _ _ (Nat.le_refl _), List.take_of_length_le (Nat.le_refl _)]
  unfold canon
  rw [mems_fold h _ (Nat.le_refl _), List.take_of_length_le (Nat.le_refl _)]
theorem canon_mem {p : List (Int × Int)} {x : Int} (h : x ∈ canon p) : ∃ q ∈ p, ∃ k : Nat, k < 64 ∧ x = q.1 * 64 + (k : Int) := by
  unfold canon mems at h
  rw [List.take_of_length_le (Nat.le_refl _)] at h
  obtain ⟨q, hq, hx⟩ := List.mem_flatMap.1 h
  unfold mem1 at hx
  obtain ⟨k, hk, rfl⟩ := List.mem_map.1 hx
  exact ⟨q, hq, k, bitsTo_lt _ _ _ hk, rfl⟩
theorem canon_up {p : List (Int × Int)} (h : Good p) : (canon p).Pairwise (fun x y => x / 64 ≤ y / 64) := by
  unfold canon mems
  rw [List.take_of_length_le (Nat.le_refl _), List.pairwise_flatMap]
  refine ⟨fun q _ => ?_, h.asc.imp fun {a b} hab x hx y hy => ?_⟩
  · apply List.Pairwise.imp_of_mem (R := fun _ _ => True)
    · intro x y hx hy _
      have h1 := mem1_in _ _ _ _ hx
      have h2 := mem1_in _ _ _ _ hy
      omega
    · exact List.pairwise_iff_forall_sublist.2 fun _ => trivial
  · have h1 := mem1_in _ _ _ _ hx
    have h2 := mem1_in _ _ _ _ hy
    omega
theorem canon_dom {p : List (Int × Int)} (h : Good p) (hw : Words p) : Dom (fun j => (canon p).getD j 0) (canon p).length := by
  intro j hj
  have hm : (canon p).getD j 0 ∈ canon p := by
    rw [List.getD_eq_getElem?_getD, List.getElem?_eq_getElem hj]; exact List.getElem_mem hj
  obtain ⟨q, hq, k, hk, e⟩ := canon_mem hm
  have hi := hw.hi q hq
  refine ⟨by show 0 ≤ (canon p).getD j 0; omega, by show (canon p).getD j 0 ≤ _; omega, fun h0 => ?_⟩
  have := List.pairwise_iff_getElem.1 (canon_up h) (j - 1) j (by omega) hj (by omega)
  show (canon p).getD (j - 1) 0 / 64 ≤ (canon p).getD j 0 / 64
  simpa [List.getD_eq_getElem?_getD, List.getElem?_eq_getElem hj, List.getElem?_eq_getElem (show j - 1 < (canon p).length by omega)] using this
theorem canon_len {p : List (Int × Int)} (h : p.length ≤ 65536) : (canon p).length ≤ 4194304 := by
  have := mems_len p p.length (Nat.le_refl _)
  unfold canon; omega
end Go.Proofs.Qxb6627971a
