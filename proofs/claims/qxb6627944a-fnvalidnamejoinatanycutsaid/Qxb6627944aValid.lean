/-
  THE WALK of store.ValidName (6).
-/
import Derived.Test.Qxb6627944aLeaf
import Derived.Laws.IdiomStrings
import Derived.WalkSmall
namespace Go.Proofs.Qxb6627944a
open Go.RowKit
/-- Is it a name? -/
def validB (l : List UInt8) : Bool := !l.isEmpty && (decide (l.length ≤ 200) && ((l.headD 0).toNat != 46 && ((l.headD 0).toNat != 45 && allB l)))


theorem toList_data (s : ByteArray) : s.toList = s.data.toList := ByteArray.toList_eq s
theorem len_data (s : ByteArray) : s.data.toList.length = s.size := Array.length_toList
theorem alw_of_aln {c : Int} (h : alnB c = true) : alwB c = true := by
  simp only [alnB, alwB, decide_eq_true_eq] at h ⊢; omega
theorem alw_one {c : Int} (h : c = 46 ∨ c = 43 ∨ c = 45 ∨ c = 95) : alwB c = true := by
  simp only [alwB, decide_eq_true_eq]; omega
theorem alw_not {c : Int} (h : alnB c = false) (h1 : c ≠ 46) (h2 : c ≠ 43) (h3 : c ≠ 45) (h4 : c ≠ 95) : alwB c = false := by
  simp only [alnB, alwB, decide_eq_false_iff_not] at h ⊢; omega

theorem head_get (s : ByteArray) (hp : 0 < s.size) : s.data.toList.headD 0 = s[0] := by
  have hp' : 0 < s.data.toList.length := by simpa using hp
  cases h : s.data.toList with
  | nil => rw [h] at hp'; simp at hp'
  | cons x r =>
    have : s[0] = s.data.toList[0] := rfl
    rw [this]
    simp [h]
theorem valid_nil : validB [] = false := rfl
theorem valid_long {l : List UInt8} (h : 200 < l.length) : validB l = false := by
  have : decide (l.length ≤ 200) = false := by rw [decide_eq_false_iff_not]; omega
  simp only [validB, this, Bool.false_and, Bool.and_false]
theorem valid_dot {l : List UInt8} (h : (l.headD 0).toNat = 46) : validB l = false := by
  simp only [validB, h, bne_self_eq_false, Bool.false_and, Bool.and_false]
theorem valid_hyphen {l : List UInt8} (h : (l.headD 0).toNat = 45) : validB l = false := by
  simp only [validB, h, bne_self_eq_false, Bool.false_and, Bool.and_false]
theorem valid_in {l : List UInt8} (h0 : l.isEmpty = false) (h2 : l.length ≤ 200) (h3 : (l.headD 0).toNat ≠ 46) (h4 : (l.headD 0).toNat ≠ 45) : validB l = allB l := by
  have e1 : decide (l.length ≤ 200) = true := by rw [decide_eq_true_eq]; exact h2
  have e3 : ((l.headD 0).toNat != 46) = true := bne_iff_ne.2 h3
  have e4 : ((l.headD 0).toNat != 45) = true := bne_iff_ne.2 h4
  simp only [validB, h0, e1, e3, e4, Bool.not_false, Bool.true_and]
theorem nil_of (s : ByteArray) (h : s.size = 0) : s.data.toList = [] := List.length_eq_zero_iff.1 (by rw [len_data]; exact h)
theorem some_of (s : ByteArray) (h : 0 < s.size) : s.data.toList.isEmpty = false := by
  cases hl : s.data.toList with
  | nil => have := len_data s; rw [hl] at this; simp at this; omega
  | cons x r => rfl

set_option maxHeartbeats 1000000 in
theorem valid_any (s : ByteArray) (w : World) (hs : s.size ≤ 4194304) :
    Calls Try.prog 6 #[.string s] w fun e w' => e = .returned (.bool (validB s.data.toList)) ∧ Below w.heap.size w w' := by
  have hcv := fun w => run_bytes_of_string (P := Try.prog) w 9 23 5 s Try.underlying9 Try.underlying23 Try.underlying5
  by_cases h0 : s.size = 0
  · have h1 : s.toList.isEmpty = true := by rw [toList_data, nil_of s h0]; rfl
    rw [nil_of s h0, valid_nil]
    go_enter Try.func6, Try.ntmps6
    go_wp2
    go_ret
    exact ⟨rfl, Below.refl _ _⟩
  have hp : 0 < s.size := by omega
  have h1 : s.toList.isEmpty = false := by rw [toList_data]; exact some_of s hp
  have hh := head_get s hp
  by_cases h2 : 200 < s.size
  · rw [valid_long (by rw [len_data]; exact h2)]
    clear hh
    go_enter Try.func6, Try.ntmps6
    go_wp2
    go_ret
    exact ⟨rfl, Below.refl _ _⟩
  by_cases h3 : (s[0]'hp).toNat = 46
  · rw [valid_dot (by rw [hh]; exact h3)]
    have h3' : (((s[0]'hp).toNat : Int) == 46) = true := by rw [h3]; rfl
    clear h3 hh
    go_enter Try.func6, Try.ntmps6
    go_wp2
    go_ret
    exact ⟨rfl, Below.refl _ _⟩
  have h3' : (((s[0]'hp).toNat : Int) == 46) = false := by rw [beq_eq_false_iff_ne]; omega
  by_cases h4 : (s[0]'hp).toNat = 45
  · rw [valid_hyphen (by rw [hh]; exact h4)]
    have h4' : (((s[0]'hp).toNat : Int) == 45) = true := by rw [h4]; rfl
    clear h3 h4 hh
    go_enter Try.func6, Try.ntmps6
    go_wp2
    go_ret
    exact ⟨rfl, Below.refl _ _⟩
  have h4' : (((s[0]'hp).toNat : Int) == 45) = false := by rw [beq_eq_false_iff_ne]; omega
  rw [valid_in (some_of s hp) (by rw [len_data]; omega) (by rw [hh]; exact h3) (by rw [hh]; exact h4)]
  clear h3 h4 hh
  go_enter Try.func6, Try.ntmps6
  go_wp2
  clear hcv h3' h4'
  have hbl : Below w.heap.size w (w.alloc (.cells (bytesRow s (grownCap w s.size 0 5)) 5 ((bytesRow s (grownCap w s.size 0 5)).size, (bytesRow s (grownCap w s.size 0 5)).size + 1))).drew := ((Below.refl _ _).alloc (Nat.le_refl _) _).drew
  have hcl : ∀ k (hk : k < s.size), (w.alloc (.cells (bytesRow s (grownCap w s.size 0 5)) 5 ((bytesRow s (grownCap w s.size 0 5)).size, (bytesRow s (grownCap w s.size 0 5)).size + 1))).drew.cell? ⟨w.heap.size, k, none⟩ = some (.int .u8 (s[k].toNat : Int)) := fun k hk =>
    (World.cell?_alloc_mark w _ _ _ k).trans (bytesRow_at s _ k hk)
  generalize (w.alloc (.cells (bytesRow s (grownCap w s.size 0 5)) 5 ((bytesRow s (grownCap w s.size 0 5)).size, (bytesRow s (grownCap w s.size 0 5)).size + 1))).drew = W at *
  have HCL : Hid _ := hcl
  clear hcl
  go_loop [25] (fun i => ∃ k : Nat, k ≤ s.size ∧ i = .int .i64 k ∧ allB (s.data.toList.take k) = true) (fun i => s.size - (intOf i).toNat)
  case atStart => exact ⟨0, Nat.zero_le _, rfl, rfl⟩
  case round =>
    obtain ⟨k, hk, rfl, ha⟩ := hrel
    by_cases hlt : k < s.size
    · have hsn := all_snoc s k hlt
      rw [ha, Bool.true_and] at hsn
      have hcell := HCL.out k hlt
      obtain ⟨c, hc⟩ : ∃ c : Int, c = (s[k].toNat : Int) := ⟨_, rfl⟩
      rw [← hc] at hsn hcell
      have HS : Hid (allB (s.data.toList.take (k + 1)) = alwB c) := hsn
      clear hsn ha hc
      cases hn : alnB c
      · by_cases e1 : c = 46
        · have hy := alw_one (c := c) (by omega)
          have t1 : (c != 46) = false := by simp [e1]
          clear e1
          go_wp2_with (go_at_call 11; refine (alnum_any _ _).mono ?_; rintro e w' ⟨rfl, rfl⟩)
          go_round
          case rel => exact ⟨k + 1, by omega, by go_num, HS.out.trans hy⟩
          case measure => simp [intOf]; omega
        have t1 : (c != 46) = true := bne_iff_ne.2 e1
        by_cases e2 : c = 43
        · have hy := alw_one (c := c) (by omega)
          have t2 : (c != 43) = false := by simp [e2]
          clear e1 e2
          go_wp2_with (go_at_call 11; refine (alnum_any _ _).mono ?_; rintro e w' ⟨rfl, rfl⟩)
          go_round
          case rel => exact ⟨k + 1, by omega, by go_num, HS.out.trans hy⟩
          case measure => simp [intOf]; omega
        have t2 : (c != 43) = true := bne_iff_ne.2 e2
        by_cases e3 : c = 45
        · have hy := alw_one (c := c) (by omega)
          have t3 : (c != 45) = false := by simp [e3]
          clear e1 e2 e3
          go_wp2_with (go_at_call 11; refine (alnum_any _ _).mono ?_; rintro e w' ⟨rfl, rfl⟩)
          go_round
          case rel => exact ⟨k + 1, by omega, by go_num, HS.out.trans hy⟩
          case measure => simp [intOf]; omega
        have t3 : (c != 45) = true := bne_iff_ne.2 e3
        by_cases e4 : c = 95
        · have hy := alw_one (c := c) (by omega)
          have t4 : (c != 95) = false := by simp [e4]
          clear e1 e2 e3 e4
          go_wp2_with (go_at_call 11; refine (alnum_any _ _).mono ?_; rintro e w' ⟨rfl, rfl⟩)
          go_round
          case rel => exact ⟨k + 1, by omega, by go_num, HS.out.trans hy⟩
          case measure => simp [intOf]; omega
        · have t4 : (c != 95) = true := bne_iff_ne.2 e4
          have hfin : Hid (allB s.data.toList = false) := all_cut s (k + 1) (HS.out.trans (alw_not hn e1 e2 e3 e4))
          clear e1 e2 e3 e4
          go_wp2_with (go_at_call 11; refine (alnum_any _ _).mono ?_; rintro e w' ⟨rfl, rfl⟩)
          go_ret
          exact ⟨ret_bool hfin.out.symm, hbl⟩
      · have hy := alw_of_aln hn
        go_wp2_with (go_at_call 11; refine (alnum_any _ _).mono ?_; rintro e w' ⟨rfl, rfl⟩)
        go_round
        case rel => exact ⟨k + 1, by omega, by go_num, HS.out.trans hy⟩
        case measure => simp [intOf]; omega
    · have hfin : Hid (allB s.data.toList = true) := by
        show _ = _
        rw [← ha, List.take_of_length_le (by simp; omega)]
      clear ha
      go_wp2
      go_ret
      exact ⟨ret_bool hfin.out.symm, hbl⟩
end Go.Proofs.Qxb6627944a
