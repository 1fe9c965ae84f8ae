/-
  THE PLAIN PART: what a reader of a TwoLevel sees, block by block and bit by bit. No Go walk here.
-/
import Derived.Test.Qxb6627971aWords
namespace Go.Proofs.Qxb6627971a

/-- How many words the first b blocks hold. -/
def cum (t : TL) (b : Nat) : Nat := (dec (t.ns.take b) (t.ss.take b)).length

theorem bitsTo_split (s k n : Nat) (h : k ≤ n) : ∃ r, bitsTo s n = bitsTo s k ++ r := by
  induction n with
  | zero => obtain rfl : k = 0 := by omega
            exact ⟨[], by simp⟩
  | succ n ih =>
    by_cases e : k = n + 1
    · subst e; exact ⟨[], by simp⟩
    · obtain ⟨r, hr⟩ := ih (by omega)
      rw [bitsTo_succ, hr, List.append_assoc]
      exact ⟨_, rfl⟩
theorem drop_snoc (l : List Int) (b : Nat) (h : b < l.length) : l.drop b = l.getD b 0 :: l.drop (b + 1) := by
  rw [List.drop_eq_getElem_cons h]
  simp [List.getElem?_eq_getElem h]

section
variable {t : TL} {wi : List Int}
theorem cum_zero (t : TL) : cum t 0 = 0 := rfl
theorem Iv.cum_all (h : Iv t wi) : cum t t.ns.length = wi.length := by
  unfold cum
  rw [List.take_of_length_le (Nat.le_refl _), List.take_of_length_le (by rw [h.l2]; omega), h.dc]
theorem Iv.cum_succ (h : Iv t wi) (b : Nat) (hb : b < t.ns.length) : cum t (b + 1) = cum t b + (bitsOf (t.ss.getD b 0)).length := by
  unfold cum
  rw [take_snoc _ _ hb, take_snoc _ _ (by rw [← h.l2]; exact hb), dec_append _ _ _ _ (by simp [h.l2])]
  simp [dec]
theorem Iv.cum_le (h : Iv t wi) (b : Nat) : cum t b ≤ wi.length := by
  have e1 : t.ns = t.ns.take b ++ t.ns.drop b := (List.take_append_drop _ _).symm
  have e2 : t.ss = t.ss.take b ++ t.ss.drop b := (List.take_append_drop _ _).symm
  have hd := h.dc
  rw [e1, e2, dec_append _ _ _ _ (by simp [h.l2])] at hd
  unfold cum
  rw [← hd]; simp
theorem Iv.split (h : Iv t wi) (b : Nat) (hb : b < t.ns.length) : ∃ r, wi = dec (t.ns.take b) (t.ss.take b) ++ ((bitsOf (t.ss.getD b 0)).map (fun k : Nat => t.ns.getD b 0 * 64 + (k : Int)) ++ r) := by
  have e1 : t.ns = t.ns.take b ++ (t.ns.getD b 0 :: t.ns.drop (b + 1)) := by rw [← drop_snoc _ _ hb, List.take_append_drop]
  have e2 : t.ss = t.ss.take b ++ (t.ss.getD b 0 :: t.ss.drop (b + 1)) := by rw [← drop_snoc _ _ (by rw [← h.l2]; exact hb), List.take_append_drop]
  have hd := h.dc
  rw [e1, e2, dec_append _ _ _ _ (by simp [h.l2])] at hd
  rw [← hd]
  exact ⟨_, rfl⟩
theorem Iv.first (h : Iv t wi) (b : Nat) (hb : b < t.ns.length) : t.fs.getD b 0 = (cum t b : Int) := by
  have hb2 : b < t.ss.length := by rw [← h.l2]; exact hb
  have e2 : t.ss = t.ss.take b ++ (t.ss.getD b 0 :: t.ss.drop (b + 1)) := by rw [← drop_snoc _ _ hb2, List.take_append_drop]
  have hf := h.fs
  rw [e2, firstsOf_append (t.ns.take b) _ _ _ (by simp [h.l2])] at hf
  rw [hf]
  have hl : (firstsOf 0 (t.ss.take b)).length = b := by rw [firstsOf_length]; simp; omega
  unfold cum
  simp only [firstsOf]
  rw [List.getD_eq_getElem?_getD, List.getElem?_append_right (by omega), hl]
  simp
/-- Bit k of block b: the word that it stands for. -/
theorem Iv.bit (h : Iv t wi) (b k : Nat) (hb : b < t.ns.length) (hk : k < 64) (hs : (t.ss.getD b 0).toNat.testBit k = true) :
    cum t b + (bitsTo (t.ss.getD b 0).toNat k).length < wi.length ∧ wi.getD (cum t b + (bitsTo (t.ss.getD b 0).toNat k).length) 0 = t.ns.getD b 0 * 64 + (k : Int) := by
  obtain ⟨r, hr⟩ := h.split b hb
  obtain ⟨r2, hr2⟩ := bitsTo_split (t.ss.getD b 0).toNat (k + 1) 64 (by omega)
  rw [bitsTo_succ _ k, if_pos hs] at hr2
  have hbo : bitsOf (t.ss.getD b 0) = bitsTo (t.ss.getD b 0).toNat k ++ [k] ++ r2 := hr2
  rw [hbo] at hr
  have hc : (dec (t.ns.take b) (t.ss.take b)).length = cum t b := rfl
  generalize dec (t.ns.take b) (t.ss.take b) = A at *
  rw [hr]
  refine ⟨by simp; omega, ?_⟩
  rw [List.getD_eq_getElem?_getD, List.getElem?_append_right (by omega), hc]
  simp
theorem Iv.up (h : Iv t wi) (b : Nat) (hb : b + 1 < t.ns.length) : t.ns.getD b 0 < t.ns.getD (b + 1) 0 := by
  have := List.pairwise_iff_getElem.1 h.asc b (b + 1) (by omega) hb (by omega)
  simpa [List.getElem?_eq_getElem hb, List.getElem?_eq_getElem (show b < t.ns.length by omega)] using this
theorem mem_getD (l : List Int) (b : Nat) (hb : b < l.length) : l.getD b 0 ∈ l := by
  rw [List.getD_eq_getElem?_getD, List.getElem?_eq_getElem hb]
  exact List.getElem_mem hb
theorem Iv.plain (h : Iv t wi) (b : Nat) (hb : b < t.ns.length) (hg : t.gaps = false) : t.ns.getD b 0 = t.base + (b : Int) := by
  rw [h.rn hg]
  simp [run, List.getD_eq_getElem?_getD, hb]
theorem Iv.full (h : Iv t wi) (b : Nat) (hb : b < t.ns.length) (hg : t.gaps = true) : t.ss.getD b 0 ≠ 0 := h.gp hg _ (mem_getD _ _ (by rw [← h.l2]; exact hb))
theorem Iv.ends (h : Iv t wi) (hL : 0 < t.ns.length) : t.ns.getD 0 0 = t.base ∧ t.ss.getD 0 0 ≠ 0 ∧ t.ss.getD (t.ns.length - 1) 0 ≠ 0 := by
  have hw : wi ≠ [] := fun e => by rw [h.emp e] at hL; simp at hL
  obtain ⟨s, r, r', e1, e2, e3⟩ := h.hd hw
  obtain ⟨a, b, s', f1, f2, f3, f4, f5⟩ := h.ls hw
  refine ⟨by rw [e3]; rfl, by rw [e1]; exact e2, ?_⟩
  rw [h.l2, getD_last f2]
  intro e
  rw [e] at f4
  have : 0 < 2 ^ (wi.getLastD 0 % 64).toNat := Nat.pow_pos (by decide)
  simp at f4
theorem Iv.fsl (h : Iv t wi) : t.fs.length = t.ns.length := by rw [h.fs, firstsOf_length, h.l2]
theorem Iv.srg (h : Iv t wi) (b : Nat) (hb : b < t.ns.length) : 0 ≤ t.ss.getD b 0 ∧ t.ss.getD b 0 < 18446744073709551616 := h.rg _ (mem_getD _ _ (by rw [← h.l2]; exact hb))
end
theorem Words.num {p : List (Int × Int)} (h : Words p) (b : Nat) (hb : b < (ofWords p).ns.length) : 0 ≤ (ofWords p).ns.getD b 0 ∧ (ofWords p).ns.getD b 0 ≤ 524287 := by
  have h1 := h.iv.nb _ (mem_getD _ _ hb)
  rcases snoc_cases p with rfl | ⟨r, q, rfl⟩
  · rw [show (ofWords []).ns = [] from rfl] at hb; simp at hb
  · rw [map_last] at h1
    have := h.hi q (by simp)
    omega
end Go.Proofs.Qxb6627971a
