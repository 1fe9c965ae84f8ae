/-
  THE PLAIN PART: the words of a row of integers. No Go walk here.
-/
import Derived.Test.Qxb6627971aDom
namespace Go.Proofs.Qxb6627971a

theorem openW_ws (t : TL) (n k : Int) : (openW t n k).ws = t.ws := by
  have hf : ∀ (m : Int) (c : Nat), (fillT t m c).ws = t.ws := by
    intro m c
    induction c with
    | zero => rfl
    | succ c ih => exact ih
  unfold openW
  split
  · rfl
  · split
    · split
      · rfl
      · split
        · exact hf _ _
        · rfl
    · rfl
theorem ofWords_ws (p : List (Int × Int)) : (ofWords p).ws = p.map (·.2) := by
  have h : ∀ (p : List (Int × Int)) (t : TL), (p.foldl (fun t q => withW (openW t (q.1 / 64) (q.1 % 64)) q.2) t).ws = t.ws ++ p.map (·.2) := by
    intro p
    induction p with
    | nil => intro t; simp
    | cons q p ih =>
      intro t
      rw [List.foldl_cons, ih]
      show (openW _ _ _).ws ++ [q.2] ++ _ = _
      rw [openW_ws]; simp
  exact h p zeroT
theorem Iv.mask {t : TL} {wi : List Int} {y : Int} (h : Iv (withW t y) wi) (y' : Int) : Iv (withW t y') wi :=
  { l2 := h.l2, l5 := (by have := h.l5; simpa [withW] using this), dc := h.dc, fs := h.fs, rg := h.rg, bt := h.bt, asc := h.asc, nb := h.nb, rn := h.rn, gp := h.gp, le := h.le, b0 := h.b0, emp := h.emp, hd := h.hd, ls := h.ls }

theorem addW_len (p : List (Int × Int)) (x : Int) : (addW p x).length ≤ p.length + 1 := by
  rcases snoc_cases p with rfl | ⟨r, q, rfl⟩
  · rw [addW_nil]; simp
  · by_cases h : q.1 = x / 64
    · rw [addW_same r q x h]; simp
    · rw [addW_new r q x h]; simp
theorem addW_last (p : List (Int × Int)) (x : Int) (q : Int × Int) (hq : (addW p x).getLast? = some q) : q.1 = x / 64 := by
  rcases snoc_cases p with rfl | ⟨r, u, rfl⟩
  · rw [addW_nil] at hq; simp at hq; rw [← hq]
  · by_cases h : u.1 = x / 64
    · rw [addW_same r u x h] at hq; simp at hq; rw [← hq]; exact h
    · rw [addW_new r u x h] at hq; simp at hq; rw [← hq]
theorem Words.nil : Words [] := ⟨Iv.zero, by simp, by simp⟩
theorem Words.add {p : List (Int × Int)} {x : Int} (h : Words p) (hl : p.length + 1 ≤ 65536) (hx0 : 0 ≤ x) (hx1 : x ≤ 2147483647) (hq : ∀ q, p.getLast? = some q → q.1 ≤ x / 64) : Words (addW p x) := by
  refine ⟨?_, Nat.le_trans (addW_len p x) hl, ?_⟩
  · rcases snoc_cases p with rfl | ⟨r, q, rfl⟩
    · exact (Iv.zero).word (x / 64) (orB 0 (x % 64)) (by omega) (fun h => absurd rfl h)
    · have := hq q (by simp)
      by_cases e : q.1 = x / 64
      · rw [addW_same r q x e]
        have hi := h.iv
        rw [ofWords_snoc] at hi
        have := hi.mask (orB q.2 (x % 64))
        rw [ofWords_snoc]
        simpa using this
      · rw [addW_new r q x e, ofWords_snoc, List.map_append]
        refine h.iv.word (x / 64) _ (by omega) (fun _ => ?_)
        rw [map_last]; omega
  · intro q' hq'
    rcases snoc_cases p with rfl | ⟨r, q, rfl⟩
    · rw [addW_nil] at hq'; simp at hq'; subst hq'
      exact ⟨by show 0 ≤ x / 64; omega, by show x / 64 ≤ _; omega⟩
    · by_cases e : q.1 = x / 64
      · rw [addW_same r q x e] at hq'
        rcases List.mem_append.1 hq' with hm | hm
        · exact h.hi q' (List.mem_append_left _ hm)
        · simp at hm; subst hm; exact h.hi q (by simp)
      · rw [addW_new r q x e] at hq'
        rcases List.mem_append.1 hq' with hm | hm
        · exact h.hi q' hm
        · simp at hm; subst hm
          exact ⟨by show 0 ≤ x / 64; omega, by show x / 64 ≤ _; omega⟩

/-- The words of f 0 .. f (n - 1). -/
def wds (f : Nat → Int) : Nat → List (Int × Int)
  | 0 => []
  | n + 1 => addW (wds f n) (f n)
theorem wds_len (f : Nat → Int) (n : Nat) : (wds f n).length ≤ n := by
  induction n with
  | zero => exact Nat.le_refl _
  | succ n ih => exact Nat.le_trans (addW_len _ _) (by omega)
theorem wds_last (f : Nat → Int) (n : Nat) (q : Int × Int) (hq : (wds f n).getLast? = some q) : 0 < n ∧ q.1 = f (n - 1) / 64 := by
  cases n with
  | zero => simp [wds] at hq
  | succ n => exact ⟨by omega, addW_last _ _ q hq⟩
theorem wds_in {f : Nat → Int} {n i : Nat} (hd : Dom f n) (hi : i < n) : ∀ q, (wds f i).getLast? = some q → q.1 ≤ f i / 64 := by
  intro q hq
  obtain ⟨h0, h1⟩ := wds_last f i q hq
  have := (hd i hi).2.2 h0
  omega
theorem wds_words {f : Nat → Int} {n : Nat} (hd : Dom f n) (hn : n ≤ 65536) (i : Nat) (hi : i ≤ n) : Words (wds f i) := by
  induction i with
  | zero => exact Words.nil
  | succ i ih =>
    have hx := hd i (by omega)
    exact (ih (by omega)).add (by have := wds_len f i; omega) hx.1 hx.2.1 (wds_in hd (by omega))

theorem orB_zero (j : Int) (h0 : 0 ≤ j) (h1 : j < 64) : orB 0 j = IntKind.u64.wrap (2 ^ j.toNat) := by
  have hp : (2 : Nat) ^ j.toNat < 18446744073709551616 := by
    have : (2 : Nat) ^ j.toNat < 2 ^ 64 := Nat.pow_lt_pow_right (by decide) (by omega)
    exact this
  rw [orB_eq 0 j (by decide) (by decide) h0 h1]
  obtain ⟨q, hq⟩ : ∃ q : Nat, (2 : Nat) ^ j.toNat = q := ⟨_, rfl⟩
  have e : ((2 : Int) ^ j.toNat) = (q : Int) := by rw [← hq]; simp
  rw [hq] at hp
  rw [IntKind.wrap_u64, e, hq]
  simp
  omega
end Go.Proofs.Qxb6627971a
