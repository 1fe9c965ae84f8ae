/-
  THE PLAIN PART: names as lists of bytes. No Go walk here.
-/
import Derived.Test.Qxb6627944aValid
namespace Go.Proofs.Qxb6627944a
theorem ins_data (s : ByteArray) (i : Nat) (cb : UInt8) (h : i ≤ s.size) : (s.extract 0 i ++ ⟨#[cb]⟩ ++ s.extract i s.size).data.toList = s.data.toList.take i ++ ([cb] ++ s.data.toList.drop i) := by
  have h' : i ≤ s.data.toList.length := by rw [len_data]; exact h
  simp [ByteArray.data_extract, ByteArray.data_append, Array.toList_extract, List.extract]
  rw [List.take_of_length_le (by simp)]
theorem join_data (a b : ByteArray) : (a ++ b).data.toList = a.data.toList ++ b.data.toList := by
  simp
theorem head_data (a b : ByteArray) : (a.extract 0 1 ++ b).data.toList = a.data.toList.take 1 ++ b.data.toList := by
  simp [ByteArray.data_extract, Array.toList_extract, List.extract]
theorem all_append (l m : List UInt8) : allB (l ++ m) = (allB l && allB m) := by simp [allB]
theorem all_cons (x : UInt8) (m : List UInt8) : allB (x :: m) = (alwB (x.toNat : Int) && allB m) := by simp [allB]
/-- A name, by its first byte and the rest. -/
theorem valid_cons (x : UInt8) (r : List UInt8) : validB (x :: r) = (decide (r.length < 200) && (firstB (x.toNat : Int) && allB r)) := by
  rw [Bool.eq_iff_iff]
  simp only [validB, List.isEmpty_cons, Bool.not_false, Bool.true_and, List.headD_cons, List.length_cons, Bool.and_eq_true, decide_eq_true_eq, bne_iff_ne, all_cons, firstB]
  constructor
  · rintro ⟨h1, h2, h3, h4, h5⟩
    exact ⟨by omega, ⟨h4, by omega, by omega⟩, h5⟩
  · rintro ⟨h1, ⟨h4, h2, h3⟩, h5⟩
    exact ⟨by omega, by omega, by omega, h4, h5⟩
theorem valid_one (x : UInt8) : validB [x] = firstB (x.toNat : Int) := by
  rw [valid_cons]; simp [allB]
/-- A byte put in behind the first. -/
theorem valid_ins (l : List UInt8) (i : Nat) (cb : UInt8) (h1 : 1 ≤ i) (h2 : i ≤ l.length) :
    validB (l.take i ++ ([cb] ++ l.drop i)) = (validB l && (decide (l.length < 200) && alwB (cb.toNat : Int))) := by
  cases l with
  | nil => simp at h2; omega
  | cons x r =>
    obtain ⟨j, rfl⟩ : ∃ j, i = j + 1 := ⟨i - 1, by omega⟩
    have hj : j ≤ r.length := by simpa using h2
    rw [List.take_succ_cons, List.drop_succ_cons, List.cons_append, valid_cons, valid_cons]
    have hl : (r.take j ++ ([cb] ++ r.drop j)).length = r.length + 1 := by simp; omega
    have ha : allB (r.take j ++ ([cb] ++ r.drop j)) = (alwB (cb.toNat : Int) && allB r) := by
      rw [all_append, all_append, show allB [cb] = alwB (cb.toNat : Int) from by simp [allB], ← Bool.and_assoc, Bool.and_comm (allB (r.take j)), Bool.and_assoc, ← all_append, List.take_append_drop]
    rw [hl, ha, List.length_cons, Bool.eq_iff_iff]
    simp only [Bool.and_eq_true, decide_eq_true_eq]
    constructor
    · rintro ⟨h, hf, hc, hr⟩; exact ⟨⟨by omega, hf, hr⟩, by omega, hc⟩
    · rintro ⟨⟨_, hf, hr⟩, h, hc⟩; exact ⟨by omega, hf, hc, hr⟩
/-- Two parts joined. -/
theorem valid_join (x : UInt8) (r b : List UInt8) :
    validB (x :: r ++ b) = (validB (x :: r) && (validB (x :: b) && decide ((x :: r).length + b.length ≤ 200))) := by
  rw [List.cons_append, valid_cons, valid_cons, valid_cons, all_append, List.length_append, List.length_cons, Bool.eq_iff_iff]
  simp only [Bool.and_eq_true, decide_eq_true_eq]
  constructor
  · rintro ⟨h, hf, hr, hb⟩; exact ⟨⟨by omega, hf, hr⟩, ⟨by omega, hf, hb⟩, by omega⟩
  · rintro ⟨⟨_, hf, hr⟩, ⟨_, _, hb⟩, h⟩; exact ⟨by omega, hf, hr, hb⟩
end Go.Proofs.Qxb6627944a
