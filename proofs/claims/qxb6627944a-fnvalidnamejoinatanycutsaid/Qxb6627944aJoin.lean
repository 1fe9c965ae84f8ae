/-
  THE WALK of FnValidNameJoinAtAnyCut (4).
-/
import Derived.Test.Qxb6627944aInsert
namespace Go.Proofs.Qxb6627944a
open Go.RowKit
theorem bytes9 (a b : ByteArray) (w : World) (h1 : a.size ≤ 524288) (h2 : b.size ≤ 524288) :
    Calls Try.prog 9 #[.string a, .string b] w fun e w' => e = .returned (.bool true) ∧ w = w' := by
  go_enter Try.func9, Try.ntmps9
  go_wp2
  go_ret
  exact ⟨rfl, rfl⟩
theorem first_is (c : Int) (v : Bool) (w : World) (hv : Hid (firstB c = v)) : Calls Try.prog 8 #[.int .u8 c] w fun e w' => e = .returned (.bool v) ∧ w = w' := by
  have := hv.out
  subst this
  exact first_any c w
theorem all_is (s : ByteArray) (v : Bool) (w : World) (hs : s.size ≤ 1048576) (hv : Hid (allB s.data.toList = v)) : Calls Try.prog 10 #[.string s] w fun e w' => e = .returned (.bool v) ∧ w = w' := by
  have := hv.out
  subst this
  exact all_any s w hs

/-- The three answers, by four Bools. -/
theorem join_plain (a b : ByteArray) (hp : 0 < a.size) :
    validB (a.extract 0 1 ++ b).data.toList = (decide (b.size < 200) && (firstB ((a[0]'hp).toNat : Int) && allB b.data.toList)) ∧
    validB (a ++ b).data.toList = (validB a.data.toList && (validB (a.extract 0 1 ++ b).data.toList && decide (a.size + b.size ≤ 200))) := by
  have hh := head_get a hp
  have hl := len_data a
  have hlb := len_data b
  rw [head_data, join_data]
  cases h : a.data.toList with
  | nil => rw [h] at hl; simp at hl; omega
  | cons x r =>
    rw [h] at hh hl
    have hx : a[0]'hp = x := hh.symm
    rw [hx, show (x :: r).take 1 = [x] from rfl, show [x] ++ b.data.toList = x :: b.data.toList from rfl, valid_join, valid_cons x b.data.toList, hlb, hl]
    exact ⟨rfl, rfl⟩

set_option maxRecDepth 100000 in
set_option maxHeartbeats 2000000 in
theorem join_main (a b : ByteArray) (w : World) (h1 : a.size ≤ 524288) (h2 : b.size ≤ 524288) (hp : 0 < a.size) :
    Calls Try.prog 4 #[.string a, .string b] w fun e w' => e = .returned (.bool true) ∧ Below w.heap.size w w' := by
  have hz : ((a.size : Int) == 0) = false := by rw [beq_eq_false_iff_ne]; omega
  obtain ⟨k1, k2⟩ := join_plain a b hp
  have s1 : (a ++ b).size ≤ 4194304 := by rw [← len_data, join_data]; simp; omega
  have s2 : (a.extract 0 1 ++ b).size ≤ 4194304 := by rw [← len_data, head_data]; simp; omega
  obtain ⟨f, gf⟩ : ∃ f, firstB ((a[0]'hp).toNat : Int) = f := ⟨_, rfl⟩
  obtain ⟨ab, gab⟩ : ∃ f, allB b.data.toList = f := ⟨_, rfl⟩
  obtain ⟨l, gl⟩ : ∃ f, validB a.data.toList = f := ⟨_, rfl⟩
  obtain ⟨d, gd⟩ : ∃ f, validB (a.extract 0 1 ++ b).data.toList = f := ⟨_, rfl⟩
  obtain ⟨j, gj⟩ : ∃ f, validB (a ++ b).data.toList = f := ⟨_, rfl⟩
  rw [gd, gf, gab] at k1
  rw [gd, gl, gj] at k2
  have hf : Hid (firstB ((a[0]'hp).toNat : Int) = f) := gf
  have hab : Hid (allB b.data.toList = ab) := gab
  have hl : Hid (validB a.data.toList = l) := gl
  have hd : Hid (validB (a.extract 0 1 ++ b).data.toList = d) := gd
  have hj : Hid (validB (a ++ b).data.toList = j) := gj
  have P1 : Hid (d = (decide (b.size < 200) && (f && ab))) := k1
  have P2 : Hid (j = (l && (d && decide (a.size + b.size ≤ 200)))) := k2
  clear k1 k2 gf gab gl gd gj
  go_enter Try.func4, Try.ntmps4
  go_wp2_with (go_at_call 9; refine (bytes9 _ _ _ h1 h2).mono ?_; rintro e w' ⟨rfl, rfl⟩)
  refine (valid_is _ j _ s1 hj.out).mono ?_
  rintro e w1 ⟨rfl, hb1⟩
  go_wp2_with fail
  refine (valid_is _ l _ (by omega) hl.out).mono ?_
  rintro e w2 ⟨rfl, hb2⟩
  go_wp2_with fail
  refine (valid_is _ d _ s2 hd.out).mono ?_
  rintro e w3 ⟨rfl, hb3⟩
  have hbl : Below w.heap.size w w3 := by
    have k2 := hb1.trans (hb2.mono hb1.size)
    exact k2.trans (hb3.mono k2.size)
  clear hb1 hb2 hb3 hj hl hd s1 s2
  cases f
  · obtain rfl : d = false := by have := P1.out; simpa using this
    obtain rfl : j = false := by have := P2.out; simpa using this
    clear P1 P2
    cases l
    · go_wp2_with (first | (go_at_call 8; refine (first_is _ _ _ hf).mono ?_; rintro e w' ⟨rfl, rfl⟩) | (go_at_call 10; refine (all_is _ _ _ (by omega) hab).mono ?_; rintro e w' ⟨rfl, rfl⟩))
      go_ret
      exact ⟨rfl, hbl⟩
    · go_wp2_with (first | (go_at_call 8; refine (first_is _ _ _ hf).mono ?_; rintro e w' ⟨rfl, rfl⟩) | (go_at_call 10; refine (all_is _ _ _ (by omega) hab).mono ?_; rintro e w' ⟨rfl, rfl⟩))
      go_ret
      exact ⟨rfl, hbl⟩
  by_cases hlb : b.size < 200
  · have q1 : decide ((b.size : Int) < 200) = true := by simp; omega
    cases ab
    · obtain rfl : d = false := by have := P1.out; simpa using this
      obtain rfl : j = false := by have := P2.out; simpa using this
      clear P1 P2
      cases l
      · go_wp2_with (first | (go_at_call 8; refine (first_is _ _ _ hf).mono ?_; rintro e w' ⟨rfl, rfl⟩) | (go_at_call 10; refine (all_is _ _ _ (by omega) hab).mono ?_; rintro e w' ⟨rfl, rfl⟩))
        go_ret
        exact ⟨rfl, hbl⟩
      · go_wp2_with (first | (go_at_call 8; refine (first_is _ _ _ hf).mono ?_; rintro e w' ⟨rfl, rfl⟩) | (go_at_call 10; refine (all_is _ _ _ (by omega) hab).mono ?_; rintro e w' ⟨rfl, rfl⟩))
        go_ret
        exact ⟨rfl, hbl⟩
    · obtain rfl : d = true := by have := P1.out; simpa [hlb] using this
      cases l
      · obtain rfl : j = false := by have := P2.out; simpa using this
        clear P1 P2
        go_wp2_with (first | (go_at_call 8; refine (first_is _ _ _ hf).mono ?_; rintro e w' ⟨rfl, rfl⟩) | (go_at_call 10; refine (all_is _ _ _ (by omega) hab).mono ?_; rintro e w' ⟨rfl, rfl⟩))
        go_ret
        exact ⟨rfl, hbl⟩
      · by_cases hs : a.size + b.size ≤ 200
        · obtain rfl : j = true := by have := P2.out; simpa [hs] using this
          have q2 : decide ((a.size : Int) + (b.size : Int) ≤ 200) = true := by simp; omega
          clear P1 P2
          go_wp2_with (first | (go_at_call 8; refine (first_is _ _ _ hf).mono ?_; rintro e w' ⟨rfl, rfl⟩) | (go_at_call 10; refine (all_is _ _ _ (by omega) hab).mono ?_; rintro e w' ⟨rfl, rfl⟩))
          go_ret
          exact ⟨rfl, hbl⟩
        · obtain rfl : j = false := by have := P2.out; simpa [hs] using this
          have q2 : decide ((a.size : Int) + (b.size : Int) ≤ 200) = false := by simp; omega
          clear P1 P2
          go_wp2_with (first | (go_at_call 8; refine (first_is _ _ _ hf).mono ?_; rintro e w' ⟨rfl, rfl⟩) | (go_at_call 10; refine (all_is _ _ _ (by omega) hab).mono ?_; rintro e w' ⟨rfl, rfl⟩))
          go_ret
          exact ⟨rfl, hbl⟩
  · have q1 : decide ((b.size : Int) < 200) = false := by simp; omega
    obtain rfl : d = false := by have := P1.out; simpa [hlb] using this
    obtain rfl : j = false := by have := P2.out; simpa using this
    clear P1 P2
    cases l
    · go_wp2_with (first | (go_at_call 8; refine (first_is _ _ _ hf).mono ?_; rintro e w' ⟨rfl, rfl⟩) | (go_at_call 10; refine (all_is _ _ _ (by omega) hab).mono ?_; rintro e w' ⟨rfl, rfl⟩))
      go_ret
      exact ⟨rfl, hbl⟩
    · go_wp2_with (first | (go_at_call 8; refine (first_is _ _ _ hf).mono ?_; rintro e w' ⟨rfl, rfl⟩) | (go_at_call 10; refine (all_is _ _ _ (by omega) hab).mono ?_; rintro e w' ⟨rfl, rfl⟩))
      go_ret
      exact ⟨rfl, hbl⟩

set_option maxRecDepth 100000 in
set_option maxHeartbeats 1000000 in
theorem join_out (a b : ByteArray) (w : World) (hs : a.size ≤ 9223372036854775807) (hs2 : b.size ≤ 9223372036854775807) (hi : 524288 < a.size ∨ 524288 < b.size ∨ a.size = 0) :
    Calls Try.prog 4 #[.string a, .string b] w fun e w' => e = .returned (.bool true) ∧ Below w.heap.size w w' := by
  by_cases c0 : 1048576 < a.size
  · clear hi
    go_enter Try.func4, Try.ntmps4
    go_wp2
    go_ret
    exact ⟨rfl, Below.refl _ _⟩
  by_cases c1 : 1048576 < b.size
  · clear hi
    go_enter Try.func4, Try.ntmps4
    go_wp2
    go_ret
    exact ⟨rfl, Below.refl _ _⟩
  by_cases c2 : 1048576 < a.size + b.size
  · clear hi
    go_enter Try.func4, Try.ntmps4
    go_wp2
    go_ret
    exact ⟨rfl, Below.refl _ _⟩
  by_cases c3 : 524288 < a.size
  · clear hi
    go_enter Try.func4, Try.ntmps4
    go_wp2
    go_ret
    exact ⟨rfl, Below.refl _ _⟩
  by_cases c4 : 524288 < b.size
  · clear hi
    go_enter Try.func4, Try.ntmps4
    go_wp2
    go_ret
    exact ⟨rfl, Below.refl _ _⟩
  have hz : ((a.size : Int) == 0) = true := by rw [beq_iff_eq]; omega
  clear hi
  go_enter Try.func4, Try.ntmps4
  go_wp2
  go_ret
  exact ⟨rfl, Below.refl _ _⟩

theorem join_any (a b : ByteArray) (w : World) (hs : a.size ≤ 9223372036854775807) (hs2 : b.size ≤ 9223372036854775807) :
    Calls Try.prog 4 #[.string a, .string b] w fun e w' => e = .returned (.bool true) ∧ Below w.heap.size w w' := by
  by_cases hi : 524288 < a.size ∨ 524288 < b.size ∨ a.size = 0
  · exact join_out a b w hs hs2 hi
  · exact join_main a b w (by omega) (by omega) (by omega)
end Go.Proofs.Qxb6627944a
