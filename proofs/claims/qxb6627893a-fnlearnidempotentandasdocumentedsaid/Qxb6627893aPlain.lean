/-
  THE PLAIN PART of seat b6627893a: what one look teaches an entry. No Go walk here.
-/
import Derived.WalkKit
namespace Go.Proofs.Qxb6627893a

/-- A Stat, field by field: inode, size, time of modification, mode, owner, group, birth. -/
structure St where
  a : Int
  b : Int
  c : Int
  d : Int
  e : Int
  f : Int
  g : Int

def dirL : List UInt8 := [100, 105, 114]
def writeL : List UInt8 := [119, 114, 105, 116, 101]

/-- The kind that an entry of kind ek has after a look that saw kind k. -/
def learnKind (ek k : ByteArray) : ByteArray := if ek.toList = [] ∧ k.toList ≠ [] ∧ k.toList ≠ [100, 105, 114] then k else ek

/-- Does the change write? -/
def writes (t : ByteArray) : Bool := t.toList == [119, 114, 105, 116, 101]

/-- The Stat that an entry has after a look. -/
def learnStat (ek : ByteArray) (s : St) (t k : ByteArray) (st : St) : St :=
  if k.toList = [] then (if writes t = true then { s with b := -1 } else s)
  else if k.toList = (learnKind ek k).toList then (if writes t = true ∨ s.b = -1 then st else { st with b := s.b, c := s.c })
  else s

theorem learnKind_twice (ek k : ByteArray) : learnKind (learnKind ek k) k = learnKind ek k := by
  unfold learnKind
  by_cases h : ek.toList = [] ∧ k.toList ≠ [] ∧ k.toList ≠ [100, 105, 114]
  · rw [if_pos h, if_neg (fun x => h.2.1 x.1)]
  · rw [if_neg h, if_neg h]

theorem learnStat_none {ek : ByteArray} {s : St} {t k : ByteArray} {st : St} (h : k.toList = []) : learnStat ek s t k st = if writes t = true then { s with b := -1 } else s := if_pos h
theorem learnStat_seen {ek : ByteArray} {s : St} {t k : ByteArray} {st : St} (h : k.toList ≠ []) (h' : k.toList = (learnKind ek k).toList) :
    learnStat ek s t k st = if writes t = true ∨ s.b = -1 then st else { st with b := s.b, c := s.c } := by
  unfold learnStat; rw [if_neg h, if_pos h']
theorem learnStat_other {ek : ByteArray} {s : St} {t k : ByteArray} {st : St} (h : k.toList ≠ []) (h' : k.toList ≠ (learnKind ek k).toList) : learnStat ek s t k st = s := by
  unfold learnStat; rw [if_neg h, if_neg h']

theorem learnStat_twice (ek : ByteArray) (s : St) (t k : ByteArray) (st : St) : learnStat (learnKind ek k) (learnStat ek s t k st) t k st = learnStat ek s t k st := by
  by_cases h : k.toList = []
  · rw [learnStat_none h, learnStat_none h]
    by_cases hw : writes t = true
    · rw [if_pos hw, if_pos hw]
    · rw [if_neg hw, if_neg hw]
  · by_cases h' : k.toList = (learnKind ek k).toList
    · rw [learnStat_seen h (by rw [learnKind_twice]; exact h'), learnStat_seen h h']
      by_cases hw : writes t = true ∨ s.b = -1
      · rw [if_pos hw]
        split
        · rfl
        · rfl
      · rw [if_neg hw, if_neg (by exact hw)]
    · rw [learnStat_other h (by rw [learnKind_twice]; exact h'), learnStat_other h h']
end Go.Proofs.Qxb6627893a
