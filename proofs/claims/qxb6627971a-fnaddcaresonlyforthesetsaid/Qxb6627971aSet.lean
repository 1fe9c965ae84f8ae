/-
  THE PLAIN PART: a word is opened in a TwoLevel; the TwoLevel of a list of words. No Go walk here.
-/
import Derived.Test.Qxb6627971aInv
namespace Go.Proofs.Qxb6627971a

/-- Where word k of block n is opened. -/
def openW (t : TL) (n k : Int) : TL :=
  if t.ns.length = 0 then bitT (addBlk { t with base := n } n) 0 k
  else if t.ns.getD (t.ns.length - 1) 0 < n then
    if t.gaps = true then bitT (addBlk t n) t.ns.length k
    else if n - t.base < 2 * ((t.ws.length : Int) + 1) then
      bitT (addBlk (fillT t (t.ns.getD (t.ns.length - 1) 0 + 1) (n - t.ns.getD (t.ns.length - 1) 0 - 1).toNat) n) (t.ns.length + (n - t.ns.getD (t.ns.length - 1) 0 - 1).toNat) k
    else bitT (addBlk (dropE t) n) (cnt t.ss t.ss.length) k
  else bitT t (t.ns.length - 1) k

theorem fillT_ns (t : TL) (m : Int) (c : Nat) : (fillT t m c).ns = t.ns ++ run m c ∧ (fillT t m c).base = t.base ∧ (fillT t m c).gaps = t.gaps := by
  induction c with
  | zero => exact ⟨by simp [fillT, run], rfl, rfl⟩
  | succ c ih =>
    refine ⟨?_, ih.2.1, ih.2.2⟩
    show (fillT t m c).ns ++ [m + (c : Int)] = _
    rw [ih.1, run_succ, List.append_assoc]
theorem fillT_dec (t : TL) (m : Int) (c : Nat) (h2 : t.ns.length = t.ss.length) (hw : t.ws.length = (dec t.ns t.ss).length) (hf : t.fs = firstsOf 0 t.ss) :
    dec (fillT t m c).ns (fillT t m c).ss = dec t.ns t.ss ∧ (fillT t m c).fs = firstsOf 0 (fillT t m c).ss ∧ (fillT t m c).ns.length = (fillT t m c).ss.length ∧ (∀ s ∈ (fillT t m c).ss, s ∈ t.ss ∨ s = 0) ∧ ∃ r, (fillT t m c).ss = t.ss ++ r := by
  induction c with
  | zero => exact ⟨rfl, hf, h2, fun s hs => .inl hs, [], by simp [fillT]⟩
  | succ c ih =>
    obtain ⟨i1, i2, i3, i4, r, i5⟩ := ih
    have hws := (fillT_len t m c).2.2.2
    refine ⟨?_, ?_, ?_, ?_, ?_⟩
    · show dec ((fillT t m c).ns ++ [_]) ((fillT t m c).ss ++ [(0 : Int)]) = _
      rw [dec_append _ _ _ _ i3, i1]
      simp [dec, bitsOf_zero]
    · show (fillT t m c).fs ++ [((fillT t m c).ws.length : Int)] = firstsOf 0 ((fillT t m c).ss ++ [(0 : Int)])
      rw [firstsOf_append (fillT t m c).ns _ _ _ i3, i2, i1, hws, hw]
      simp [firstsOf]
    · show ((fillT t m c).ns ++ [_]).length = ((fillT t m c).ss ++ [(0 : Int)]).length
      simp [i3]
    · intro s hs
      have hs' : s ∈ (fillT t m c).ss ++ [(0 : Int)] := hs
      rcases List.mem_append.1 hs' with hs | hs
      · exact i4 s hs
      · simp at hs; exact .inr hs
    · exact ⟨r ++ [0], by show (fillT t m c).ss ++ [(0 : Int)] = _; rw [i5, List.append_assoc]⟩

theorem run_append (b : Int) (L C : Nat) : run b L ++ run (b + (L : Int)) C = run b (L + C) := by
  induction C with
  | zero => simp [run]
  | succ C ih =>
    rw [run_succ, ← List.append_assoc, ih, show L + (C + 1) = (L + C) + 1 from rfl, run_succ]
    congr 2
    push_cast
    omega
theorem run_mem (b : Int) (L : Nat) (x : Int) (h : x ∈ run b L) : b ≤ x ∧ x < b + (L : Int) := by
  simp only [run, List.mem_map, List.mem_range] at h
  obtain ⟨i, hi, rfl⟩ := h
  omega
theorem run_asc (b : Int) (L : Nat) : (run b L).Pairwise (· < ·) := by
  induction L with
  | zero => simp [run]
  | succ L ih =>
    rw [run_succ, List.pairwise_append]
    exact ⟨ih, List.pairwise_singleton _ _, fun x hx y hy => by simp at hy; have := run_mem b L x hx; omega⟩
theorem run_last (b : Int) (L : Nat) : (run b (L + 1)).getD L 0 = b + (L : Int) := by
  rw [run_succ]; exact get_snoc _ _ _ (run_length b L)

theorem Iv.last {t : TL} {wi : List Int} (h : Iv t wi) (hw : wi ≠ []) : 0 < t.ns.length ∧ t.ns.getD (t.ns.length - 1) 0 = wi.getLastD 0 / 64 := by
  obtain ⟨a, b, s, e1, _⟩ := h.ls hw
  refine ⟨by rw [e1]; simp, ?_⟩
  rw [e1]
  exact get_snoc _ _ _ (by simp)
theorem Iv.fill {t : TL} {wi : List Int} (h : Iv t wi) (hw : wi ≠ []) (n : Int) (hn : wi.getLastD 0 / 64 < n) (hg : t.gaps = false) (hnear : n - t.base < 2 * ((t.ws.length : Int) + 1)) :
    Mid (fillT t (wi.getLastD 0 / 64 + 1) (n - wi.getLastD 0 / 64 - 1).toNat) wi n := by
  obtain ⟨hp, hl⟩ := h.last hw
  obtain ⟨n1, n2, n3⟩ := fillT_ns t (wi.getLastD 0 / 64 + 1) (n - wi.getLastD 0 / 64 - 1).toNat
  obtain ⟨d1, d2, d3, d4, r, d5⟩ := fillT_dec t (wi.getLastD 0 / 64 + 1) (n - wi.getLastD 0 / 64 - 1).toNat h.l2 (by rw [h.l5, h.dc]) h.fs
  obtain ⟨_, f2, _, f4⟩ := fillT_len t (wi.getLastD 0 / 64 + 1) (n - wi.getLastD 0 / 64 - 1).toNat
  generalize hC : (n - wi.getLastD 0 / 64 - 1).toNat = C at *
  generalize hll : wi.getLastD 0 / 64 = l at *
  obtain ⟨L, hL⟩ : ∃ L, t.ns.length = L + 1 := ⟨t.ns.length - 1, by omega⟩
  have hr := h.rn hg
  have hbl : l = t.base + (L : Int) := by
    rw [← hl, hr, run_length, hL]
    exact run_last _ _
  have hnC : n = t.base + ((L + 1 + C : Nat) : Int) := by omega
  have hns : (fillT t (l + 1) C).ns = run t.base (L + 1 + C) := by
    rw [n1, hr, hL, show l + 1 = t.base + ((L + 1 : Nat) : Int) from by omega]
    exact run_append _ _ _
  generalize fillT t (l + 1) C = u at *
  have lu : u.ns.length = L + 1 + C := by rw [hns, run_length]
  constructor
  · exact d3
  · rw [f4]; exact h.l5
  · rw [d1]; exact h.dc
  · exact d2
  · intro s hs
    rcases d4 s hs with hs | hs
    · exact h.rg s hs
    · subst hs; decide
  · intro s hs hne
    rcases d4 s hs with hs | hs
    · exact h.bt s hs hne
    · exact absurd hs hne
  · rw [hns]; exact run_asc _ _
  · rw [hns]; intro x hx
    have := run_mem _ _ x hx
    have := h.b0
    omega
  · intro _
    rw [lu, n2, hns, run_succ, hnC]
  · rw [n3, hg]; intro e; cases e
  · rw [lu]; have := h.l5; omega
  · rw [n2]; exact h.b0
  · right
    obtain ⟨s, r1, r2, e1, e2, e3⟩ := h.hd hw
    rw [d5, n1, n2, e1]
    refine ⟨s, r1 ++ r, r2 ++ run (l + 1) C, rfl, e2, ?_⟩
    conv => lhs; rw [e3]
    rfl
theorem Iv.drop {t : TL} {wi : List Int} (h : Iv t wi) (hw : wi ≠ []) (n : Int) (hn : wi.getLastD 0 / 64 < n) : Mid (dropE t) wi n ∧ (dropE t).ns.length = cnt t.ss t.ss.length := by
  have lf : t.fs.length = t.ss.length := by rw [h.fs]; exact firstsOf_length _ _
  have e2 : (dropE t).ss = filt t.ss t.ss := kp_all _ _ rfl
  have e3 : (dropE t).ns = filt t.ss t.ns := kp_all _ _ h.l2.symm
  have e4 : (dropE t).fs = filt t.ss t.fs := kp_all _ _ lf.symm
  have hlen : (dropE t).ns.length = cnt t.ss t.ss.length := kp_length _ _ _
  have e5 : (dropE t).ws = t.ws := rfl
  have e6 : (dropE t).base = t.base := rfl
  have e7 : (dropE t).gaps = true := rfl
  refine ⟨?_, hlen⟩
  generalize dropE t = u at *
  have l2 : u.ns.length = u.ss.length := by rw [e3, e2]; exact filt_len _ _ h.l2.symm
  have dc : dec u.ns u.ss = wi := by rw [e3, e2, dec_filt _ _ h.l2]; exact h.dc
  have bt : ∀ s ∈ u.ss, s ≠ 0 → bitsOf s ≠ [] := by
    rw [e2]; intro s hs
    exact h.bt s ((filt_sub _ _).subset hs)
  have ne : ∀ s ∈ u.ss, s ≠ 0 := by rw [e2]; exact filt_ne _
  constructor
  · exact l2
  · rw [e5]; exact h.l5
  · exact dc
  · rw [e4, e2, h.fs]; exact firsts_filt _ _
  · rw [e2]; intro s hs; exact h.rg s ((filt_sub _ _).subset hs)
  · exact bt
  · rw [e3]; exact h.asc.sublist (filt_sub _ _)
  · rw [e3]; intro x hx
    have := h.nb x ((filt_sub _ _).subset hx)
    omega
  · rw [e7]; intro e; cases e
  · intro _; exact ne
  · have := len_le_dec u.ns u.ss l2 (fun s hs => bt s hs (ne s hs))
    rw [dc] at this
    omega
  · rw [e6]; exact h.b0
  · right
    obtain ⟨s, r1, r2, f1, f2, f3⟩ := h.hd hw
    rw [e2, e3, e6, f1]
    refine ⟨s, filt r1 r1, filt r1 r2, by simp only [filt]; rw [if_neg f2], f2, ?_⟩
    conv => lhs; rw [f3]
    simp only [filt]; rw [if_neg f2]

/-- One word more. -/
theorem Iv.word {t : TL} {wi : List Int} (h : Iv t wi) (w y : Int) (hw0 : 0 ≤ w) (hlt : wi ≠ [] → wi.getLastD 0 < w) : Iv (withW (openW t (w / 64) (w % 64)) y) (wi ++ [w]) := by
  have hk0 : 0 ≤ w % 64 := by omega
  have hk1 : w % 64 < 64 := by omega
  have hw : w / 64 * 64 + w % 64 = w := by omega
  by_cases he : wi = []
  · have hns := h.emp he
    have hss : t.ss = [] := List.length_eq_zero_iff.1 (by rw [← h.l2, hns]; rfl)
    have hz : t.ns.length = 0 := by rw [hns]; rfl
    have mid : Mid { t with base := w / 64 } wi (w / 64) := by
      constructor
      · exact h.l2
      · exact h.l5
      · exact h.dc
      · exact h.fs
      · exact h.rg
      · exact h.bt
      · exact h.asc
      · show ∀ x ∈ t.ns, _
        rw [hns]; intro x hx; simp at hx
      · intro _
        show t.ns ++ [_] = run _ (t.ns.length + 1)
        rw [hns]; simp [run]
      · exact h.gp
      · show t.ns.length + 1 ≤ _
        rw [hz]; omega
      · show 0 ≤ w / 64
        omega
      · left; exact ⟨hns, hss, rfl⟩
    have hs := mid.step (by omega) (w % 64) y hk0 hk1
    rw [hw] at hs
    unfold openW
    rw [if_pos hz]
    have e : ({ t with base := w / 64 } : TL).ns.length = 0 := hz
    rw [e] at hs
    exact hs
  · obtain ⟨hp, hl⟩ := h.last he
    have hlw := hlt he
    unfold openW
    rw [if_neg (by omega), hl]
    by_cases hn : wi.getLastD 0 / 64 < w / 64
    · rw [if_pos hn]
      by_cases hg : t.gaps = true
      · rw [if_pos hg]
        have mid : Mid t wi (w / 64) := by
          constructor
          · exact h.l2
          · exact h.l5
          · exact h.dc
          · exact h.fs
          · exact h.rg
          · exact h.bt
          · exact h.asc
          · intro x hx; have := h.nb x hx; omega
          · rw [hg]; intro e; cases e
          · exact h.gp
          · have := h.le; omega
          · exact h.b0
          · right; exact h.hd he
        have hs := mid.step (by omega) (w % 64) y hk0 hk1
        rw [hw] at hs
        exact hs
      · rw [if_neg hg]
        have hg' : t.gaps = false := by simpa using hg
        by_cases hnear : w / 64 - t.base < 2 * ((t.ws.length : Int) + 1)
        · rw [if_pos hnear]
          have hs := (h.fill he (w / 64) hn hg' hnear).step (by omega) (w % 64) y hk0 hk1
          rw [hw, (fillT_len t (wi.getLastD 0 / 64 + 1) (w / 64 - wi.getLastD 0 / 64 - 1).toNat).2.1] at hs
          exact hs
        · rw [if_neg hnear]
          obtain ⟨mid, hlen⟩ := h.drop he (w / 64) hn
          have hs := mid.step (by omega) (w % 64) y hk0 hk1
          rw [hw, hlen] at hs
          exact hs
    · rw [if_neg hn]
      have hs := h.step he (w % 64) y (by omega) hk1
      have e : wi.getLastD 0 / 64 * 64 + w % 64 = w := by omega
      rw [e] at hs
      exact hs

def zeroT : TL := ⟨0, false, [], [], [], []⟩
theorem Iv.zero : Iv zeroT [] := by
  constructor <;> simp [zeroT, dec, firstsOf, run]
/-- The TwoLevel of a list of words with their masks. -/
def ofWords (p : List (Int × Int)) : TL := p.foldl (fun t q => withW (openW t (q.1 / 64) (q.1 % 64)) q.2) zeroT
theorem ofWords_snoc (p : List (Int × Int)) (q : Int × Int) : ofWords (p ++ [q]) = withW (openW (ofWords p) (q.1 / 64) (q.1 % 64)) q.2 := by
  simp [ofWords]
end Go.Proofs.Qxb6627971a
