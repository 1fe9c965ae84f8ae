/-
  THE PLAIN PART of seat b6634873a: the least of four, the bit of a place, a row below, and the law on it. No Go walk here.
-/
import Derived.WalkKit
namespace Go.Proofs.Qxb6634873a

/-! ### bits -/
theorem and_i64 (x y : Int) : bits .and .i64 x y = IntKind.i64.wrap (((x % 18446744073709551616).toNat &&& (y % 18446744073709551616).toNat : Nat) : Int) := by
  show IntKind.i64.wrap ((BitVec.ofInt 64 x &&& BitVec.ofInt 64 y).toNat : Int) = _
  rw [BitVec.toNat_and, BitVec.toNat_ofInt, BitVec.toNat_ofInt]
  rfl

/-- Bit m of s, asked for by a shift or by a mask. -/
theorem bit_test (s : Int) (m p : Nat) (hm : p = 2 ^ m) (hm' : m < 5) : (bits .and .i64 (s / (p : Int)) 1 == 1) = (bits .and .i64 s (p : Int) != 0) := by
  rw [and_i64, and_i64]
  have e1 : ((1 : Int) % 18446744073709551616).toNat = 1 := by decide
  have e2 : ((p : Int) % 18446744073709551616).toNat = 2 ^ m := by
    have : 2 ^ m ≤ 2 ^ 4 := Nat.pow_le_pow_right (by omega) (by omega)
    omega
  rw [e1, e2, nat_bit, nat_mask1, IntKind.wrap_i64, IntKind.wrap_i64]
  have h5 : m = 0 ∨ m = 1 ∨ m = 2 ∨ m = 3 ∨ m = 4 := by omega
  rw [Bool.eq_iff_iff, beq_iff_eq, bne_iff_ne]
  rcases h5 with rfl | rfl | rfl | rfl | rfl <;> simp only [Nat.reducePow] at hm ⊢ <;> subst hm <;> omega

/-! ### a row below -/
/-- The least of three and of 3. -/
def m4 (a b c : Int) : Int := min (min (min a b) c) 3
theorem m4_le (a b c : Int) : m4 a b c ≤ 3 := by unfold m4; omega
theorem m4_pos (a b c : Int) (ha : 0 ≤ a) (hb : 0 ≤ b) (hc : 0 ≤ c) : 0 ≤ m4 a b c := by unfold m4; omega

/-- What is added where the place's bit is not set. -/
def ch (s : Int) (p : Int) : Int := if (bits BinOp.and IntKind.i64 s p != 0) = true then 0 else 1
theorem ch_bd (s p : Int) : 0 ≤ ch s p ∧ ch s p ≤ 1 := by unfold ch; split <;> omega
theorem ch_yes {s p : Int} (h : (bits BinOp.and IntKind.i64 s p != 0) = true) : ch s p = 0 := by unfold ch; rw [if_pos h]
theorem ch_no {s p : Int} (h : (bits BinOp.and IntKind.i64 s p != 0) = false) : ch s p = 1 := by unfold ch; rw [if_neg (by simp [h])]

def n0 (r0 r1 s : Int) : Int := m4 (r1 + 1) 4 (r0 + ch s 1)
def n1 (r0 r1 r2 s : Int) : Int := m4 (r2 + 1) (n0 r0 r1 s + 1) (r1 + ch s 2)
def n2 (r0 r1 r2 r3 s : Int) : Int := m4 (r3 + 1) (n1 r0 r1 r2 s + 1) (r2 + ch s 4)
def n3 (r0 r1 r2 r3 r4 s : Int) : Int := m4 (r4 + 1) (n2 r0 r1 r2 r3 s + 1) (r3 + ch s 8)
def n4 (r0 r1 r2 r3 r4 s : Int) : Int := m4 3 (n3 r0 r1 r2 r3 r4 s + 1) (r4 + ch s 16)

/-- Go's builtin 'min' of four bytes, the last of them 3. -/
theorem run_min4 (P : Program) (W : World) (ts : Array TypeId) (t : TypeId) (x y z v : Int) (hv : m4 x y z = v) : (Builtin.min_ ts t #[.int .u8 x, .int .u8 y, .int .u8 z, .int .u8 3]).run P W = .ok (.int .u8 v) W := by
  subst hv
  simp [Builtin.min_, Builtin.min2, m4]
  omega

/-! ### the cheapest entry plus insertions -/
/-- The least of 3 and of the first entries, m of them, at place k. -/
def bst (c0 c1 c2 c3 c4 k : Int) : Nat → Int
  | 0 => 3
  | 1 => min 3 (k + c0)
  | 2 => min (min 3 (k + c0)) (k - 1 + c1)
  | 3 => min (min (min 3 (k + c0)) (k - 1 + c1)) (k - 2 + c2)
  | 4 => min (min (min (min 3 (k + c0)) (k - 1 + c1)) (k - 2 + c2)) (k - 3 + c3)
  | _ => min (min (min (min (min 3 (k + c0)) (k - 1 + c1)) (k - 2 + c2)) (k - 3 + c3)) (k - 4 + c4)

section
variable (r0 r1 r2 r3 r4 s : Int)
def e0 : Int := min (r0 + ch s 1) (r1 + 1)
def e1 : Int := min (r1 + ch s 2) (r2 + 1)
def e2 : Int := min (r2 + ch s 4) (r3 + 1)
def e3 : Int := min (r3 + ch s 8) (r4 + 1)
def e4 : Int := r4 + ch s 16

theorem eq_of_le_iff {a b : Int} (h : ∀ x : Int, x ≤ a ↔ x ≤ b) : a = b := Int.le_antisymm ((h a).1 (Int.le_refl _)) ((h b).2 (Int.le_refl _))

theorem law0 (c1 c2 c3 c4 : Int) (_h0 : 0 ≤ r0) : n0 r0 r1 s = bst (e0 r0 r1 s) c1 c2 c3 c4 0 1 := by
  have := ch_bd s 1
  refine eq_of_le_iff fun x => ?_
  simp only [n0, m4, bst, e0, Int.le_min, Int.zero_add]
  omega
theorem step1 : n1 r0 r1 r2 s = min (min 3 (n0 r0 r1 s + 1)) (e1 r1 r2 s) := by
  refine eq_of_le_iff fun x => ?_
  simp only [n1, m4, e1, Int.le_min]
  omega
theorem step2 : n2 r0 r1 r2 r3 s = min (min 3 (n1 r0 r1 r2 s + 1)) (e2 r2 r3 s) := by
  refine eq_of_le_iff fun x => ?_
  simp only [n2, m4, e2, Int.le_min]
  omega
theorem step3 : n3 r0 r1 r2 r3 r4 s = min (min 3 (n2 r0 r1 r2 r3 s + 1)) (e3 r3 r4 s) := by
  refine eq_of_le_iff fun x => ?_
  simp only [n3, m4, e3, Int.le_min]
  omega
theorem step4 : n4 r0 r1 r2 r3 r4 s = min (min 3 (n3 r0 r1 r2 r3 r4 s + 1)) (e4 r4 s) := by
  refine eq_of_le_iff fun x => ?_
  simp only [n4, m4, e4, Int.le_min]
  omega
theorem le_add_one (x y : Int) : x ≤ y + 1 ↔ x - 1 ≤ y := by omega
theorem law1 (c2 c3 c4 : Int) (h0 : 0 ≤ r0) : n1 r0 r1 r2 s = bst (e0 r0 r1 s) (e1 r1 r2 s) c2 c3 c4 1 2 := by
  rw [step1, law0 r0 r1 s 0 0 0 0 h0]
  refine eq_of_le_iff fun x => ?_
  simp only [bst, Int.le_min, le_add_one]
  omega
theorem law2 (c3 c4 : Int) (h0 : 0 ≤ r0) : n2 r0 r1 r2 r3 s = bst (e0 r0 r1 s) (e1 r1 r2 s) (e2 r2 r3 s) c3 c4 2 3 := by
  rw [step2, law1 r0 r1 r2 s 0 0 0 h0]
  refine eq_of_le_iff fun x => ?_
  simp only [bst, Int.le_min, le_add_one]
  omega
theorem law3 (c4 : Int) (h0 : 0 ≤ r0) : n3 r0 r1 r2 r3 r4 s = bst (e0 r0 r1 s) (e1 r1 r2 s) (e2 r2 r3 s) (e3 r3 r4 s) c4 3 4 := by
  rw [step3, law2 r0 r1 r2 r3 s 0 0 h0]
  refine eq_of_le_iff fun x => ?_
  simp only [bst, Int.le_min, le_add_one]
  omega
theorem law4 (h0 : 0 ≤ r0) : n4 r0 r1 r2 r3 r4 s = bst (e0 r0 r1 s) (e1 r1 r2 s) (e2 r2 r3 s) (e3 r3 r4 s) (e4 r4 s) 4 5 := by
  rw [step4, law3 r0 r1 r2 r3 r4 s 0 h0]
  refine eq_of_le_iff fun x => ?_
  simp only [bst, Int.le_min, le_add_one]
  omega
end
end Go.Proofs.Qxb6634873a
