/-
  THE PLAIN PART: the TwoLevel of a list of words, and what it holds. No Go walk here.
-/
import Derived.Test.Qxb6627971aBits
import Derived.Test.Qxb6627971aAddNear
import Derived.Test.Qxb6627971aDrop
namespace Go.Proofs.Qxb6627971a

/-- The words that blocks ns with summaries ss stand for. -/
def dec : List Int → List Int → List Int
  | n :: ns, s :: ss => (bitsOf s).map (fun k : Nat => n * 64 + (k : Int)) ++ dec ns ss
  | _, _ => []
/-- The place of each block's first word. -/
def firstsOf : Int → List Int → List Int
  | _, [] => []
  | p, s :: ss => p :: firstsOf (p + ((bitsOf s).length : Int)) ss
/-- What is kept of xs where the summary is not empty. -/
def filt : List Int → List Int → List Int
  | s :: ss, x :: xs => if s = 0 then filt ss xs else x :: filt ss xs
  | _, _ => []
def run (b : Int) (L : Nat) : List Int := (List.range L).map (fun i : Nat => b + (i : Int))

theorem dec_append : ∀ (ns ss ns' ss' : List Int), ns.length = ss.length → dec (ns ++ ns') (ss ++ ss') = dec ns ss ++ dec ns' ss'
  | [], [], _, _, _ => rfl
  | n :: ns, s :: ss, ns', ss', h => by
    simp only [List.cons_append, dec, List.append_assoc]
    rw [dec_append ns ss ns' ss' (by simpa using h)]
theorem firstsOf_append : ∀ (ns ss ss' : List Int) (p : Int), ns.length = ss.length → firstsOf p (ss ++ ss') = firstsOf p ss ++ firstsOf (p + ((dec ns ss).length : Int)) ss'
  | [], [], ss', p, _ => by simp [firstsOf, dec]
  | n :: ns, s :: ss, ss', p, h => by
    simp only [List.cons_append, firstsOf, dec]
    rw [firstsOf_append ns ss ss' _ (by simpa using h)]
    have e : p + ((bitsOf s).length : Int) + ((dec ns ss).length : Int) = p + (((bitsOf s).map (fun k : Nat => n * 64 + (k : Int)) ++ dec ns ss).length : Int) := by simp; omega
    rw [e]
theorem firstsOf_length : ∀ (ss : List Int) (p : Int), (firstsOf p ss).length = ss.length
  | [], _ => rfl
  | s :: ss, p => by simp [firstsOf, firstsOf_length ss]
theorem filt_append : ∀ (ss xs ss' xs' : List Int), ss.length = xs.length → filt (ss ++ ss') (xs ++ xs') = filt ss xs ++ filt ss' xs'
  | [], [], _, _, _ => rfl
  | s :: ss, x :: xs, ss', xs', h => by
    simp only [List.cons_append, filt]
    rw [filt_append ss xs ss' xs' (by simpa using h)]
    split <;> simp
theorem take_snoc (l : List Int) (p : Nat) (h : p < l.length) : l.take (p + 1) = l.take p ++ [l.getD p 0] := by
  rw [List.take_succ_eq_append_getElem h]
  simp [List.getElem?_eq_getElem h]
theorem kp_filt (ss xs : List Int) (p : Nat) (h1 : p ≤ ss.length) (h2 : p ≤ xs.length) : kp ss xs p = filt (ss.take p) (xs.take p) := by
  induction p with
  | zero => rfl
  | succ p ih =>
    rw [take_snoc ss p (by omega), take_snoc xs p (by omega), filt_append _ _ _ _ (by simp; omega), ← ih (by omega) (by omega)]
    simp only [kp, filt]
theorem kp_all (ss xs : List Int) (h : ss.length = xs.length) : kp ss xs ss.length = filt ss xs := by
  rw [kp_filt ss xs ss.length (Nat.le_refl _) (by omega), List.take_of_length_le (Nat.le_refl _), List.take_of_length_le (by omega)]
theorem dec_filt : ∀ (ns ss : List Int), ns.length = ss.length → dec (filt ss ns) (filt ss ss) = dec ns ss
  | [], [], _ => rfl
  | n :: ns, s :: ss, h => by
    have ih := dec_filt ns ss (by simpa using h)
    simp only [filt, dec]
    by_cases hs : s = 0
    · subst hs
      rw [if_pos rfl, if_pos rfl, bitsOf_zero, ih]; rfl
    · rw [if_neg hs, if_neg hs]
      simp only [dec]
      rw [ih]
theorem firsts_filt : ∀ (ss : List Int) (p : Int), filt ss (firstsOf p ss) = firstsOf p (filt ss ss)
  | [], _ => rfl
  | s :: ss, p => by
    simp only [filt, firstsOf]
    by_cases hs : s = 0
    · subst hs
      rw [if_pos rfl, if_pos rfl, bitsOf_zero, firsts_filt ss]
      simp
    · rw [if_neg hs, if_neg hs, firsts_filt ss]
      rfl
theorem filt_sub : ∀ (ss xs : List Int), (filt ss xs).Sublist xs
  | [], _ => List.nil_sublist _
  | s :: ss, [] => by simp [filt]
  | s :: ss, x :: xs => by
    simp only [filt]
    split
    · exact (filt_sub ss xs).cons x
    · exact (filt_sub ss xs).cons_cons x
theorem filt_ne : ∀ (ss : List Int) (s : Int), s ∈ filt ss ss → s ≠ 0
  | s :: ss, u, h => by
    simp only [filt] at h
    split at h
    · exact filt_ne ss u h
    · rename_i hs
      rcases List.mem_cons.1 h with e | h
      · rw [e]; exact hs
      · exact filt_ne ss u h
theorem filt_len : ∀ (ss xs : List Int), ss.length = xs.length → (filt ss xs).length = (filt ss ss).length
  | [], [], _ => rfl
  | s :: ss, x :: xs, h => by
    have ih := filt_len ss xs (by simpa using h)
    simp only [filt]
    split
    · exact ih
    · simp [ih]
/-- Blocks that all hold a member are no more than the words. -/
theorem len_le_dec : ∀ (ns ss : List Int), ns.length = ss.length → (∀ s ∈ ss, bitsOf s ≠ []) → ns.length ≤ (dec ns ss).length
  | [], [], _, _ => Nat.le_refl _
  | n :: ns, s :: ss, h, hb => by
    have ih := len_le_dec ns ss (by simpa using h) (fun u hu => hb u (List.mem_cons_of_mem _ hu))
    have h0 : 0 < (bitsOf s).length := List.length_pos_iff.2 (hb s (List.mem_cons_self ..))
    simp only [dec, List.length_append, List.length_map, List.length_cons]
    omega
theorem run_succ (b : Int) (L : Nat) : run b (L + 1) = run b L ++ [b + (L : Int)] := by
  simp [run, List.range_succ]
theorem run_length (b : Int) (L : Nat) : (run b L).length = L := by simp [run]
end Go.Proofs.Qxb6627971a
