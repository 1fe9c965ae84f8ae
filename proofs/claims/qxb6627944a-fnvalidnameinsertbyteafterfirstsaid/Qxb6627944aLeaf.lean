/-
  THE WALKS of isAlnum (11), zzAllowed (7), zzOkFirst (8), zzAllAllowed (10).
-/
import Derived.Test.Qxb6627944aRows
import Derived.WalkKit
import Derived.WalkSpells
import Derived.WalkLawsBesides
namespace Go.Proofs.Qxb6627944a
open Go.RowKit
def alnB (c : Int) : Bool := decide ((97 ≤ c ∧ c ≤ 122) ∨ (65 ≤ c ∧ c ≤ 90) ∨ (48 ≤ c ∧ c ≤ 57))
def alwB (c : Int) : Bool := decide ((97 ≤ c ∧ c ≤ 122) ∨ (65 ≤ c ∧ c ≤ 90) ∨ (48 ≤ c ∧ c ≤ 57) ∨ c = 46 ∨ c = 43 ∨ c = 45 ∨ c = 95)
theorem aln_yes {c : Int} (h : (97 ≤ c ∧ c ≤ 122) ∨ (65 ≤ c ∧ c ≤ 90) ∨ (48 ≤ c ∧ c ≤ 57)) : alnB c = true := by simp only [alnB, decide_eq_true_eq]; exact h
theorem aln_no {c : Int} (h : ¬ ((97 ≤ c ∧ c ≤ 122) ∨ (65 ≤ c ∧ c ≤ 90) ∨ (48 ≤ c ∧ c ≤ 57))) : alnB c = false := by simp only [alnB, decide_eq_false_iff_not]; exact h
theorem ret_bool {a b : Bool} (h : a = b) : Ending.returned (.bool a) = .returned (.bool b) := by rw [h]
set_option maxHeartbeats 400000 in
theorem alnum_any (c : Int) (w : World) :
    Calls Try.prog 11 #[.int .u8 c] w fun e w' => e = .returned (.bool (alnB c)) ∧ w = w' := by
  go_enter Try.func11, Try.ntmps11
  go_wp2
  all_goals (go_ret; exact ⟨ret_bool (by rw [Bool.eq_iff_iff]; simp [alnB] <;> omega), rfl⟩)
set_option maxHeartbeats 400000 in
theorem allowed_any (c : Int) (w : World) :
    Calls Try.prog 7 #[.int .u8 c] w fun e w' => e = .returned (.bool (alwB c)) ∧ w = w' := by
  go_enter Try.func7, Try.ntmps7
  go_wp2
  all_goals (go_ret; exact ⟨ret_bool (by rw [Bool.eq_iff_iff]; simp [alwB] <;> omega), rfl⟩)

def firstB (c : Int) : Bool := decide (alwB c = true ∧ c ≠ 46 ∧ c ≠ 45)
set_option maxHeartbeats 400000 in
theorem first_any (c : Int) (w : World) :
    Calls Try.prog 8 #[.int .u8 c] w fun e w' => e = .returned (.bool (firstB c)) ∧ w = w' := by
  cases h : alwB c
  · go_enter Try.func8, Try.ntmps8
    go_wp2_with (go_at_call 7; refine (allowed_any c _).mono ?_; rintro e w' ⟨rfl, rfl⟩)
    go_ret
    exact ⟨ret_bool (by simp [firstB, h]), rfl⟩
  · go_enter Try.func8, Try.ntmps8
    go_wp2_with (go_at_call 7; refine (allowed_any c _).mono ?_; rintro e w' ⟨rfl, rfl⟩)
    all_goals (go_ret; exact ⟨ret_bool (by rw [Bool.eq_iff_iff]; simp [firstB, h] <;> omega), rfl⟩)

def allB (l : List UInt8) : Bool := l.all fun b => alwB (b.toNat : Int)
theorem all_snoc (s : ByteArray) (k : Nat) (h : k < s.size) : allB (s.data.toList.take (k + 1)) = (allB (s.data.toList.take k) && alwB (s[k].toNat : Int)) := by
  have e : s.data.toList.take (k + 1) = s.data.toList.take k ++ [s[k]] := by
    rw [List.take_succ_eq_append_getElem (by simpa using h)]; rfl
  rw [e]; simp [allB]
theorem all_cut (s : ByteArray) (k : Nat) (h : allB (s.data.toList.take k) = false) : allB s.data.toList = false := by
  simp only [allB, List.all_eq_false] at h ⊢
  obtain ⟨x, hx, hb⟩ := h
  exact ⟨x, List.mem_of_mem_take hx, hb⟩
set_option maxHeartbeats 400000 in
theorem all_any (s : ByteArray) (w : World) (hs : s.size ≤ 1048576) :
    Calls Try.prog 10 #[.string s] w fun e w' => e = .returned (.bool (allB s.data.toList)) ∧ w = w' := by
  go_enter Try.func10, Try.ntmps10
  go_wp2
  go_loop [3] (fun i => ∃ k : Nat, k ≤ s.size ∧ i = .int .i64 k ∧ allB (s.data.toList.take k) = true) (fun i => s.size - (intOf i).toNat)
  case atStart => exact ⟨0, Nat.zero_le _, rfl, rfl⟩
  case round =>
    obtain ⟨k, hk, rfl, ha⟩ := hrel
    by_cases hlt : k < s.size
    · have hsn := all_snoc s k hlt
      rw [ha, Bool.true_and] at hsn
      have HS : Hid (allB (s.data.toList.take (k + 1)) = alwB (s[k].toNat : Int)) := hsn
      have HA : Hid (allB (s.data.toList.take k) = true) := ha
      clear hsn ha
      cases hc : alwB (s[k].toNat : Int)
      · have hfin : Hid (allB s.data.toList = false) := all_cut s (k + 1) (HS.out.trans hc)
        go_wp2_with (go_at_call 7; refine (allowed_any _ _).mono ?_; rintro e w' ⟨rfl, rfl⟩)
        go_ret
        exact ⟨ret_bool hfin.out.symm, rfl⟩
      · go_wp2_with (go_at_call 7; refine (allowed_any _ _).mono ?_; rintro e w' ⟨rfl, rfl⟩)
        go_round
        case rel => exact ⟨k + 1, by omega, by go_num, HS.out.trans hc⟩
        case measure => simp [intOf]; omega
    · have hfin : Hid (allB s.data.toList = true) := by
        show _ = _
        rw [← ha, List.take_of_length_le (by simp; omega)]
      clear ha
      go_wp2
      go_ret
      exact ⟨ret_bool hfin.out.symm, rfl⟩
end Go.Proofs.Qxb6627944a
