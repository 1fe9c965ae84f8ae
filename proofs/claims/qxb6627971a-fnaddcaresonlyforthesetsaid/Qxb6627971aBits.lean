/-
  THE PLAIN PART on bits: which bits a summary has. No Go walk here.
-/
import Derived.Test.Qxb6627971aHalf
import Derived.Lib.BitFns
namespace Go.Proofs.Qxb6627971a

/-- The bits of s below n, ascending. -/
def bitsTo (s : Nat) (n : Nat) : List Nat := (List.range n).filter (fun k => s.testBit k)
/-- The bits of s, ascending. -/
def bitsOf (s : Int) : List Nat := bitsTo s.toNat 64

theorem bitsTo_succ (s n : Nat) : bitsTo s (n + 1) = bitsTo s n ++ if s.testBit n = true then [n] else [] := by
  unfold bitsTo
  rw [List.range_succ, List.filter_append]
  congr 1
  by_cases h : s.testBit n = true
  · simp [h]
  · simp [h]
theorem bitsTo_lt (s : Nat) (n k : Nat) (h : k ∈ bitsTo s n) : k < n := by
  unfold bitsTo at h
  exact List.mem_range.1 (List.mem_filter.1 h).1
/-- No bit from j on. -/
theorem bitsTo_stop (s j : Nat) (hs : s < 2 ^ j) (n : Nat) (h : j ≤ n) : bitsTo s n = bitsTo s j := by
  induction n with
  | zero => obtain rfl : j = 0 := by omega
            rfl
  | succ n ih =>
    by_cases e : j = n + 1
    · subst e; rfl
    · rw [bitsTo_succ, ih (by omega)]
      have : s.testBit n = false := Nat.testBit_lt_two_pow (Nat.lt_of_lt_of_le hs (Nat.pow_le_pow_right (by decide) (by omega)))
      simp [this]
theorem testBit_put (s k n : Nat) : (s ||| 2 ^ k).testBit n = (s.testBit n || decide (k = n)) := by
  rw [Nat.testBit_or, Nat.testBit_two_pow]
/-- A bit above all others. -/
theorem bitsTo_put (s k : Nat) (hs : s < 2 ^ k) (n : Nat) (h : k < n) : bitsTo (s ||| 2 ^ k) n = bitsTo s n ++ [k] := by
  have low : ∀ i, i ≤ k → bitsTo (s ||| 2 ^ k) i = bitsTo s i := by
    intro i
    induction i with
    | zero => intro _; rfl
    | succ i ih =>
      intro hi
      rw [bitsTo_succ, bitsTo_succ, ih (by omega), testBit_put]
      have : decide (k = i) = false := by simp; omega
      rw [this, Bool.or_false]
  have hb : (s ||| 2 ^ k) < 2 ^ (k + 1) := Nat.or_lt_two_pow (Nat.lt_of_lt_of_le hs (Nat.pow_le_pow_right (by decide) (by omega))) (Nat.pow_lt_pow_right (by decide) (by omega))
  rw [bitsTo_stop _ (k + 1) hb n (by omega), bitsTo_succ, low k (Nat.le_refl _), testBit_put, bitsTo_stop s k hs n (by omega)]
  simp

theorem orB_eq (s k : Int) (hs0 : 0 ≤ s) (hs1 : s < 18446744073709551616) (hk0 : 0 ≤ k) (hk1 : k < 64) : orB s k = ((s.toNat ||| 2 ^ k.toNat : Nat) : Int) := by
  have hp : (2 : Nat) ^ k.toNat < 18446744073709551616 := by
    have : (2 : Nat) ^ k.toNat < 2 ^ 64 := Nat.pow_lt_pow_right (by decide) (by omega)
    exact this
  unfold orB
  obtain ⟨q, hq⟩ : ∃ q : Nat, (2 : Nat) ^ k.toNat = q := ⟨_, rfl⟩
  have e : ((2 : Int) ^ k.toNat) = (q : Int) := by rw [← hq]; simp
  rw [hq] at hp
  rw [IntKind.wrap_u64, e, hq]
  have e2 : (q : Int) % 18446744073709551616 = (q : Int) := by omega
  rw [e2, u64_or _ _ hs0 hs1 (by omega) (by omega)]
  simp
theorem orB_lt (s k : Int) (hs0 : 0 ≤ s) (hs1 : s < 18446744073709551616) (hk0 : 0 ≤ k) (hk1 : k < 64) : 0 ≤ orB s k ∧ orB s k < 18446744073709551616 := by
  rw [orB_eq s k hs0 hs1 hk0 hk1]
  have : s.toNat ||| 2 ^ k.toNat < 2 ^ 64 := Nat.or_lt_two_pow (by omega) (Nat.pow_lt_pow_right (by decide) (by omega))
  omega
theorem orB_nat (s k : Int) (hs0 : 0 ≤ s) (hs1 : s < 18446744073709551616) (hk0 : 0 ≤ k) (hk1 : k < 64) : (orB s k).toNat = s.toNat ||| 2 ^ k.toNat := by
  rw [orB_eq s k hs0 hs1 hk0 hk1]; rfl
/-- A bit above all others of a summary. -/
theorem bitsOf_put (s k : Int) (hs0 : 0 ≤ s) (hs1 : s < 18446744073709551616) (hk0 : 0 ≤ k) (hk1 : k < 64) (hl : s.toNat < 2 ^ k.toNat) : bitsOf (orB s k) = bitsOf s ++ [k.toNat] := by
  unfold bitsOf
  rw [orB_nat s k hs0 hs1 hk0 hk1]
  exact bitsTo_put _ _ hl 64 (by omega)
theorem bitsOf_zero : bitsOf 0 = [] := by decide
/-- The new summary's own top bit. -/
theorem top_put (s k : Int) (hs0 : 0 ≤ s) (hs1 : s < 18446744073709551616) (hk0 : 0 ≤ k) (hk1 : k < 64) (hl : s.toNat < 2 ^ k.toNat) : 2 ^ k.toNat ≤ (orB s k).toNat ∧ (orB s k).toNat < 2 ^ (k.toNat + 1) := by
  rw [orB_nat s k hs0 hs1 hk0 hk1]
  refine ⟨Nat.right_le_or, ?_⟩
  exact Nat.or_lt_two_pow (Nat.lt_of_lt_of_le hl (Nat.pow_le_pow_right (by decide) (by omega))) (Nat.pow_lt_pow_right (by decide) (by omega))
/-- Its length in bits. -/
theorem bitLen_top (s k : Nat) (hk : k < 64) (h1 : 2 ^ k ≤ s) (h2 : s < 2 ^ (k + 1)) : Lib.bitLen s = k + 1 := by
  have h64 : s < 2 ^ 64 := Nat.lt_of_lt_of_le h2 (Nat.pow_le_pow_right (by decide) (by omega))
  rw [Lib.bitLen_shift k s h1 h64]
  have : s / 2 ^ k = 1 := by
    rw [Nat.pow_succ] at h2
    exact Nat.div_eq_of_lt_le (by omega) (by omega)
  rw [this]
  rfl
end Go.Proofs.Qxb6627971a
