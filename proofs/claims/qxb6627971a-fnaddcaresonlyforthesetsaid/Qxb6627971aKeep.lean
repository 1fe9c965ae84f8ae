/-
  THE PLAIN PART of dropEmptyBlocks: which places are kept. No Go here.
-/
namespace Go.Proofs.Qxb6627971a

/-- How many of the first p places have a summary. -/
def cnt (ss : List Int) : Nat → Nat
  | 0 => 0
  | p + 1 => cnt ss p + if ss.getD p 0 = 0 then 0 else 1
/-- What lies at those places. -/
def kp (ss xs : List Int) : Nat → List Int
  | 0 => []
  | p + 1 => kp ss xs p ++ if ss.getD p 0 = 0 then [] else [xs.getD p 0]
/-- The row behind p rounds: what is kept, then what lay there. -/
def arr (ss xs : List Int) (p : Nat) : List Int := kp ss xs p ++ xs.drop (cnt ss p)

theorem kp_length (ss xs : List Int) (p : Nat) : (kp ss xs p).length = cnt ss p := by
  induction p with
  | zero => rfl
  | succ p ih =>
    simp only [kp, cnt, List.length_append, ih]
    split <;> rfl
theorem cnt_le (ss : List Int) (p : Nat) : cnt ss p ≤ p := by
  induction p with
  | zero => exact Nat.le_refl _
  | succ p ih => simp only [cnt]; split <;> omega
theorem arr_length (ss xs : List Int) (p : Nat) (h : p ≤ xs.length) : (arr ss xs p).length = xs.length := by
  have := cnt_le ss p
  simp only [arr, List.length_append, kp_length, List.length_drop]
  omega
theorem arr_zero (ss xs : List Int) : arr ss xs 0 = xs := rfl
theorem getD_append_right (l m : List Int) (j : Nat) (h : l.length ≤ j) : (l ++ m).getD j 0 = m.getD (j - l.length) 0 := by
  simp only [List.getD_eq_getElem?_getD, List.getElem?_append_right h]
theorem getD_drop (l : List Int) (a j : Nat) : (l.drop a).getD j 0 = l.getD (a + j) 0 := by
  simp only [List.getD_eq_getElem?_getD, List.getElem?_drop]
theorem arr_at (ss xs : List Int) (p : Nat) : (arr ss xs p).getD p 0 = xs.getD p 0 := by
  have := cnt_le ss p
  rw [arr, getD_append_right _ _ _ (by rw [kp_length]; exact this), kp_length, getD_drop]
  congr 1
  omega
theorem arr_skip (ss xs : List Int) (p : Nat) (h : ss.getD p 0 = 0) : arr ss xs (p + 1) = arr ss xs p := by
  simp only [arr, kp, cnt, h, if_true, List.append_nil, Nat.add_zero]
theorem arr_keep (ss xs : List Int) (p : Nat) (hp : p < xs.length) (h : ss.getD p 0 ≠ 0) : (arr ss xs p).set (cnt ss p) (xs.getD p 0) = arr ss xs (p + 1) := by
  have hc := cnt_le ss p
  simp only [arr, kp, cnt, if_neg h]
  rw [List.set_append_right _ _ (by rw [kp_length]; exact Nat.le_refl _), kp_length, Nat.sub_self]
  rw [List.drop_eq_getElem_cons (show cnt ss p < xs.length by omega), List.set_cons_zero, List.append_assoc]
  rfl
theorem arr_take (ss xs : List Int) (p : Nat) : (arr ss xs p).take (cnt ss p) = kp ss xs p := by
  rw [arr, List.take_append_of_le_length (by rw [kp_length]; exact Nat.le_refl _), List.take_of_length_le (by rw [kp_length]; exact Nat.le_refl _)]
end Go.Proofs.Qxb6627971a
