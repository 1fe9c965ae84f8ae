/-
  THE PLAIN PART: what holds of a TwoLevel that holds the words wi, and that one word more keeps it. No Go walk here.
-/
import Derived.Test.Qxb6627971aModel
namespace Go.Proofs.Qxb6627971a

def bitT (t : TL) (m : Nat) (k : Int) : TL := { t with ss := t.ss.set m (orB (t.ss.getD m 0) k) }
def withW (t : TL) (y : Int) : TL := { t with ws := t.ws ++ [y] }
theorem newWord_eq (t : TL) (m : Nat) (k j : Int) : newWord t m k j = withW (bitT t m k) (orB 0 j) := by
  unfold newWord withW bitT
  simp

structure Iv (t : TL) (wi : List Int) : Prop where
  l2 : t.ns.length = t.ss.length
  l5 : t.ws.length = wi.length
  dc : dec t.ns t.ss = wi
  fs : t.fs = firstsOf 0 t.ss
  rg : ∀ s ∈ t.ss, 0 ≤ s ∧ s < 18446744073709551616
  bt : ∀ s ∈ t.ss, s ≠ 0 → bitsOf s ≠ []
  asc : t.ns.Pairwise (· < ·)
  nb : ∀ n ∈ t.ns, 0 ≤ n ∧ n ≤ wi.getLastD 0 / 64
  rn : t.gaps = false → t.ns = run t.base t.ns.length
  gp : t.gaps = true → ∀ s ∈ t.ss, s ≠ 0
  le : t.ns.length ≤ 2 * wi.length
  b0 : 0 ≤ t.base
  emp : wi = [] → t.ns = []
  hd : wi ≠ [] → ∃ s r r', t.ss = s :: r ∧ s ≠ 0 ∧ t.ns = t.base :: r'
  ls : wi ≠ [] → ∃ a b s, t.ns = a ++ [wi.getLastD 0 / 64] ∧ t.ss = b ++ [s] ∧ a.length = b.length ∧ 2 ^ (wi.getLastD 0 % 64).toNat ≤ s.toNat ∧ s.toNat < 2 ^ ((wi.getLastD 0 % 64).toNat + 1)

/-- What holds ahead of a new block n. -/
structure Mid (t : TL) (wi : List Int) (n : Int) : Prop where
  l2 : t.ns.length = t.ss.length
  l5 : t.ws.length = wi.length
  dc : dec t.ns t.ss = wi
  fs : t.fs = firstsOf 0 t.ss
  rg : ∀ s ∈ t.ss, 0 ≤ s ∧ s < 18446744073709551616
  bt : ∀ s ∈ t.ss, s ≠ 0 → bitsOf s ≠ []
  asc : t.ns.Pairwise (· < ·)
  nb : ∀ x ∈ t.ns, 0 ≤ x ∧ x < n
  rn : t.gaps = false → t.ns ++ [n] = run t.base (t.ns.length + 1)
  gp : t.gaps = true → ∀ s ∈ t.ss, s ≠ 0
  le : t.ns.length + 1 ≤ 2 * (wi.length + 1)
  b0 : 0 ≤ t.base
  hd : (t.ns = [] ∧ t.ss = [] ∧ t.base = n) ∨ ∃ s r r', t.ss = s :: r ∧ s ≠ 0 ∧ t.ns = t.base :: r'

theorem set_snoc (l : List Int) (x y : Int) (m : Nat) (h : l.length = m) : (l ++ [x]).set m y = l ++ [y] := by
  subst h; simp
theorem get_snoc (l : List Int) (x : Int) (m : Nat) (h : l.length = m) : (l ++ [x]).getD m 0 = x := by
  subst h; simp
theorem last_snoc (l : List Int) (x : Int) : (l ++ [x]).getLastD 0 = x := by simp

theorem put_zero (k : Int) (hk0 : 0 ≤ k) (hk1 : k < 64) : 0 ≤ orB 0 k ∧ orB 0 k < 18446744073709551616 ∧ bitsOf (orB 0 k) = [k.toNat] ∧ 2 ^ k.toNat ≤ (orB 0 k).toNat ∧ (orB 0 k).toNat < 2 ^ (k.toNat + 1) ∧ orB 0 k ≠ 0 := by
  have hp : (0 : Int).toNat < 2 ^ k.toNat := Nat.pow_pos (by decide)
  have h1 := orB_lt 0 k (by decide) (by decide) hk0 hk1
  have h2 := bitsOf_put 0 k (by decide) (by decide) hk0 hk1 hp
  have h3 := top_put 0 k (by decide) (by decide) hk0 hk1 hp
  refine ⟨h1.1, h1.2, by rw [h2, bitsOf_zero]; rfl, h3.1, h3.2, fun e => ?_⟩
  rw [e] at h3
  have : 0 < 2 ^ k.toNat := Nat.pow_pos (by decide)
  have h4 := h3.1
  simp at h4

theorem div_of (n k : Int) (hk0 : 0 ≤ k) (hk1 : k < 64) : (n * 64 + k) / 64 = n ∧ (n * 64 + k) % 64 = k := by omega

/-- A new block, with its first word. -/
theorem Mid.step {t : TL} {wi : List Int} {n : Int} (h : Mid t wi n) (hn : 0 ≤ n) (k y : Int) (hk0 : 0 ≤ k) (hk1 : k < 64) : Iv (withW (bitT (addBlk t n) t.ns.length k) y) (wi ++ [n * 64 + k]) := by
  obtain ⟨p0, p1, pb, p2, p3, pn⟩ := put_zero k hk0 hk1
  have dn := div_of n k hk0 hk1
  have es : (withW (bitT (addBlk t n) t.ns.length k) y).ss = t.ss ++ [orB 0 k] := by
    show (t.ss ++ [(0 : Int)]).set _ (orB ((t.ss ++ [(0 : Int)]).getD _ 0) k) = _
    rw [get_snoc _ _ _ h.l2.symm, set_snoc _ _ _ _ h.l2.symm]
  have en : (withW (bitT (addBlk t n) t.ns.length k) y).ns = t.ns ++ [n] := rfl
  have ef : (withW (bitT (addBlk t n) t.ns.length k) y).fs = t.fs ++ [(t.ws.length : Int)] := rfl
  have ew : (withW (bitT (addBlk t n) t.ns.length k) y).ws = t.ws ++ [y] := rfl
  have eg : (withW (bitT (addBlk t n) t.ns.length k) y).gaps = t.gaps := rfl
  have eb : (withW (bitT (addBlk t n) t.ns.length k) y).base = t.base := rfl
  generalize withW (bitT (addBlk t n) t.ns.length k) y = u at *
  have ln : (t.ns ++ [n]).length = t.ns.length + 1 := by simp
  constructor
  · rw [en, es]; simp [h.l2]
  · rw [ew]; simp [h.l5]
  · rw [en, es, dec_append _ _ _ _ h.l2, h.dc]
    simp only [dec, pb, List.map_cons, List.map_nil, List.append_nil]
    congr 2
    omega
  · rw [ef, es, firstsOf_append t.ns _ _ _ h.l2, h.fs, h.dc, h.l5]
    simp [firstsOf]
  · rw [es]; intro s hs
    rcases List.mem_append.1 hs with hs | hs
    · exact h.rg s hs
    · simp at hs; subst hs; exact ⟨p0, p1⟩
  · rw [es]; intro s hs hne
    rcases List.mem_append.1 hs with hs | hs
    · exact h.bt s hs hne
    · simp at hs; subst hs; rw [pb]; simp
  · rw [en, List.pairwise_append]
    exact ⟨h.asc, List.pairwise_singleton _ _, fun a ha b hb => by simp at hb; subst hb; exact (h.nb a ha).2⟩
  · rw [en, last_snoc, dn.1]; intro a ha
    rcases List.mem_append.1 ha with ha | ha
    · have := h.nb a ha; omega
    · simp at ha; subst ha; omega
  · rw [eg, en, eb, ln]; exact h.rn
  · rw [eg, es]; intro hg s hs
    rcases List.mem_append.1 hs with hs | hs
    · exact h.gp hg s hs
    · simp at hs; subst hs; exact pn
  · rw [en, ln]; have := h.le; simp; omega
  · rw [eb]; exact h.b0
  · intro e; simp at e
  · intro _
    rw [es, en, eb]
    rcases h.hd with ⟨e1, e2, e3⟩ | ⟨s, r, r', e1, e2, e3⟩
    · rw [e1, e2, e3]; exact ⟨_, [], [], rfl, pn, rfl⟩
    · rw [e1]
      refine ⟨s, r ++ [orB 0 k], r' ++ [n], rfl, e2, ?_⟩
      rw [e3]; rfl
  · intro _
    rw [last_snoc, dn.1, dn.2]
    exact ⟨t.ns, t.ss, orB 0 k, en, es, h.l2, p2, p3⟩

/-- A new word in the last block. -/
theorem Iv.step {t : TL} {wi : List Int} (h : Iv t wi) (hw : wi ≠ []) (k y : Int) (hk : wi.getLastD 0 % 64 < k) (hk1 : k < 64) :
    Iv (withW (bitT t (t.ns.length - 1) k) y) (wi ++ [wi.getLastD 0 / 64 * 64 + k]) := by
  obtain ⟨a, b, s, e1, e2, e3, e4, e5⟩ := h.ls hw
  have hk0 : 0 ≤ k := by omega
  have hs := h.rg s (by rw [e2]; simp)
  have hlt : s.toNat < 2 ^ k.toNat := Nat.lt_of_lt_of_le e5 (Nat.pow_le_pow_right (by decide) (by omega))
  have o1 := orB_lt s k hs.1 hs.2 hk0 hk1
  have o2 := bitsOf_put s k hs.1 hs.2 hk0 hk1 hlt
  have o3 := top_put s k hs.1 hs.2 hk0 hk1 hlt
  have pn : orB s k ≠ 0 := fun e => by
    have h4 := o3.1
    rw [e] at h4
    have : 0 < 2 ^ k.toNat := Nat.pow_pos (by decide)
    simp at h4
  generalize hl : wi.getLastD 0 = l at *
  have dn := div_of (l / 64) k hk0 hk1
  have hm : t.ns.length - 1 = b.length := by rw [e1]; simp [e3]
  have es : (withW (bitT t (t.ns.length - 1) k) y).ss = b ++ [orB s k] := by
    show t.ss.set _ (orB (t.ss.getD _ 0) k) = _
    rw [hm, e2, get_snoc _ _ _ rfl, set_snoc _ _ _ _ rfl]
  have en : (withW (bitT t (t.ns.length - 1) k) y).ns = a ++ [l / 64] := e1
  have ef : (withW (bitT t (t.ns.length - 1) k) y).fs = t.fs := rfl
  have ew : (withW (bitT t (t.ns.length - 1) k) y).ws = t.ws ++ [y] := rfl
  have eg : (withW (bitT t (t.ns.length - 1) k) y).gaps = t.gaps := rfl
  have eb : (withW (bitT t (t.ns.length - 1) k) y).base = t.base := rfl
  generalize withW (bitT t (t.ns.length - 1) k) y = u at *
  have hdc := h.dc
  rw [e1, e2, dec_append _ _ _ _ e3] at hdc
  have hfs := h.fs
  rw [e2, firstsOf_append a _ _ _ e3] at hfs
  have hle := h.le
  rw [e1] at hle
  constructor
  · rw [en, es]; simp [e3]
  · rw [ew]; simp [h.l5]
  · rw [en, es, dec_append _ _ _ _ e3, ← hdc]
    simp only [dec, o2, List.map_append, List.map_cons, List.map_nil, List.append_nil, List.append_assoc]
    congr 3
    omega
  · rw [ef, es, firstsOf_append a _ _ _ e3, hfs]
    rfl
  · rw [es]; intro x hx
    rcases List.mem_append.1 hx with hx | hx
    · exact h.rg x (by rw [e2]; exact List.mem_append_left _ hx)
    · simp at hx; subst hx; exact o1
  · rw [es]; intro x hx hne
    rcases List.mem_append.1 hx with hx | hx
    · exact h.bt x (by rw [e2]; exact List.mem_append_left _ hx) hne
    · simp at hx; subst hx; rw [o2]; simp
  · rw [en, ← e1]; exact h.asc
  · rw [en, last_snoc, dn.1, ← e1]; intro x hx
    have := h.nb x hx
    rw [hl] at this; exact this
  · rw [eg, en, eb, ← e1]; exact h.rn
  · rw [eg, es]; intro hg x hx
    rcases List.mem_append.1 hx with hx | hx
    · exact h.gp hg x (by rw [e2]; exact List.mem_append_left _ hx)
    · simp at hx; subst hx; exact pn
  · rw [en]; simp at hle ⊢; omega
  · rw [eb]; exact h.b0
  · intro e; simp at e
  · intro _
    obtain ⟨s0, r, r', f1, f2, f3⟩ := h.hd hw
    rw [es, en, eb, ← e1, f3]
    cases b with
    | nil =>
      exact ⟨orB s k, [], r', rfl, pn, rfl⟩
    | cons b0 br =>
      rw [e2] at f1
      simp only [List.cons_append, List.cons.injEq] at f1
      refine ⟨b0, br ++ [orB s k], r', rfl, ?_, rfl⟩
      rw [f1.1]; exact f2
  · intro _
    rw [last_snoc, dn.1, dn.2]
    exact ⟨a, b, orB s k, en, es, e3, o3.1, o3.2⟩
end Go.Proofs.Qxb6627971a
