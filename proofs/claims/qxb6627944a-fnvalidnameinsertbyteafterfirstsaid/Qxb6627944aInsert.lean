/-
  THE WALK of FnValidNameInsertByteAfterFirst (3).
-/
import Derived.Test.Qxb6627944aNames
import Derived.Deep.QuietTactic
import Derived.BigQuiet
namespace Go.Proofs.Qxb6627944a
open Go.RowKit
theorem bytes5 (s : ByteArray) (i c : Int) (w : World) (h1 : s.size ≤ 1048576) :
    Calls Try.prog 5 #[.string s, .int .i64 i, .int .u8 c] w fun e w' => e = .returned (.bool true) ∧ w = w' := by
  go_enter Try.func5, Try.ntmps5
  go_wp2
  go_ret
  exact ⟨rfl, rfl⟩
theorem valid_is (s : ByteArray) (v : Bool) (w : World) (hs : s.size ≤ 4194304) (hv : validB s.data.toList = v) :
    Calls Try.prog 6 #[.string s] w fun e w' => e = .returned (.bool v) ∧ Below w.heap.size w w' := by
  subst hv
  exact valid_any s w hs
set_option maxHeartbeats 1000000 in
theorem insert_main (s : ByteArray) (i : Nat) (cb : UInt8) (w : World) (h1 : s.size ≤ 1048576) (hi1 : 1 ≤ i) (hi2 : i ≤ s.size) :
    Calls Try.prog 3 #[.string s, .int .i64 (i : Int), .int .u8 (cb.toNat : Int)] w fun e w' => e = .returned (.bool true) ∧ Below w.heap.size w w' := by
  have hd : decide ((i : Int) < 1) = false := by simp; omega
  have hcv : (convert 23 9 (.slice (some ⟨w.heap.size, 0, none⟩) 1 1)).run Try.prog (w.alloc (.cells #[.int .u8 (cb.toNat : Int)] 5)) = .ok (.string ⟨#[cb]⟩) (w.alloc (.cells #[.int .u8 (cb.toNat : Int)] 5)) :=
    run_convert_bytes_back (P := Try.prog) _ 23 9 5 ⟨w.heap.size, 0, none⟩ 1 [cb] Try.underlying23 Try.underlying5 Try.underlying9 (fun j hj => by
      have : j = 0 := by simp at hj; omega
      subst this
      exact World.cell?_alloc_at _ _ _ _ rfl)
  go_enter Try.func3, Try.ntmps3
  go_wp2_with (go_at_call 5; refine (bytes5 _ _ _ _ h1).mono ?_; rintro e w' ⟨rfl, rfl⟩)
  go_quiet (fail)
  go_wp2_with fail
  have hsz : (s.extract 0 i ++ ⟨#[cb]⟩ ++ s.extract i s.size).size ≤ 4194304 := by
    rw [← len_data, ins_data s i cb hi2]; simp; omega
  have E0 : validB (s.extract 0 i ++ ⟨#[cb]⟩ ++ s.extract i s.size).data.toList = (validB s.data.toList && (decide (s.size < 200) && alwB (cb.toNat : Int))) := by
    rw [ins_data s i cb hi2, valid_ins _ _ _ hi1 (by rw [len_data]; exact hi2), len_data]
  obtain ⟨b, hb⟩ : ∃ b, validB s.data.toList = b := ⟨_, rfl⟩
  obtain ⟨g, hg⟩ : ∃ g, (b && (decide (s.size < 200) && alwB (cb.toNat : Int))) = g := ⟨_, rfl⟩
  rw [hb, hg] at E0
  have E1 : Hid (validB (s.extract 0 i ++ ⟨#[cb]⟩ ++ s.extract i s.size).data.toList = g) := E0
  have E3 : Hid (validB s.data.toList = b) := hb
  have E4 : Hid ((b && (decide (s.size < 200) && alwB (cb.toNat : Int))) = g) := hg
  clear E0 hb hg
  refine (valid_is _ g _ hsz E1.out).mono ?_
  rintro e w1 ⟨rfl, hb1⟩
  go_wp2_with fail
  refine (valid_is s b _ (by omega) E3.out).mono ?_
  rintro e w2 ⟨rfl, hb2⟩
  go_wp2_with fail
  refine (valid_is ⟨#[cb]⟩ (firstB (cb.toNat : Int)) _ (by show 1 ≤ _; omega) (valid_one cb)).mono ?_
  rintro e w3 ⟨rfl, hb3⟩
  have hbl : Below w.heap.size w w3 := by
    have k1 : Below w.heap.size w ((w.alloc (.cells #[.int .u8 (cb.toNat : Int)] 5)).drewN nq) := below_drewN ((Below.refl _ _).alloc (Nat.le_refl _) _) nq
    have k2 := k1.trans (hb1.mono k1.size)
    have k3 := k2.trans (hb2.mono k2.size)
    exact k3.trans (hb3.mono k3.size)
  clear hb1 hb2 hb3 hcv
  have e4 := E4.out
  clear E1 E3 E4 hsz
  cases b
  · obtain rfl : false = g := e4
    go_wp2_with (first | (go_at_call 8; refine (first_any _ _).mono ?_; rintro e w' ⟨rfl, rfl⟩) | (go_at_call 7; refine (allowed_any _ _).mono ?_; rintro e w' ⟨rfl, rfl⟩))
    go_ret
    exact ⟨rfl, hbl⟩
  · by_cases hl : s.size < 200
    · have hl1 : decide ((s.size : Int) < 200) = true := by simp; omega
      have hl2 : decide (s.size < 200) = true := by simp; omega
      cases ha : alwB (cb.toNat : Int)
      · obtain rfl : false = g := by rw [ha, hl2] at e4; exact e4
        clear e4
        go_wp2_with (first | (go_at_call 8; refine (first_any _ _).mono ?_; rintro e w' ⟨rfl, rfl⟩) | (go_at_call 7; refine (allowed_any _ _).mono ?_; rintro e w' ⟨rfl, rfl⟩))
        go_ret
        exact ⟨rfl, hbl⟩
      · obtain rfl : true = g := by rw [ha, hl2] at e4; exact e4
        clear e4
        go_wp2_with (first | (go_at_call 8; refine (first_any _ _).mono ?_; rintro e w' ⟨rfl, rfl⟩) | (go_at_call 7; refine (allowed_any _ _).mono ?_; rintro e w' ⟨rfl, rfl⟩))
        go_ret
        exact ⟨rfl, hbl⟩
    · have hl1 : decide ((s.size : Int) < 200) = false := by simp; omega
      have hl2 : decide (s.size < 200) = false := by simp; omega
      obtain rfl : false = g := by rw [hl2] at e4; exact e4
      clear e4
      go_wp2_with (first | (go_at_call 8; refine (first_any _ _).mono ?_; rintro e w' ⟨rfl, rfl⟩) | (go_at_call 7; refine (allowed_any _ _).mono ?_; rintro e w' ⟨rfl, rfl⟩))
      go_ret
      exact ⟨rfl, hbl⟩

set_option maxRecDepth 100000 in
set_option maxHeartbeats 1000000 in
theorem insert_out (s : ByteArray) (i c : Int) (w : World) (hs : s.size ≤ 9223372036854775807) (hi : 1048576 < s.size ∨ i < 1 ∨ (s.size : Int) < i) :
    Calls Try.prog 3 #[.string s, .int .i64 i, .int .u8 c] w fun e w' => e = .returned (.bool true) ∧ Below w.heap.size w w' := by
  by_cases c1 : 1048576 < s.size
  · clear hi
    go_enter Try.func3, Try.ntmps3
    go_wp2
    go_ret
    exact ⟨rfl, Below.refl _ _⟩
  by_cases c2 : i < 1
  · have hd : decide (i < 1) = true := by simpa using c2
    clear hi
    go_enter Try.func3, Try.ntmps3
    go_wp2
    go_ret
    exact ⟨rfl, Below.refl _ _⟩
  · have c3 : (s.size : Int) < i := by omega
    have hd : decide (i < 1) = false := by simp; omega
    have hd2 : decide ((s.size : Int) < i) = true := by simpa using c3
    clear hi
    go_enter Try.func3, Try.ntmps3
    go_wp2
    go_ret
    exact ⟨rfl, Below.refl _ _⟩

theorem insert_any (s : ByteArray) (i c : Int) (w : World) (hs : s.size ≤ 9223372036854775807) (hc0 : 0 ≤ c) (hc1 : c ≤ 255) :
    Calls Try.prog 3 #[.string s, .int .i64 i, .int .u8 c] w fun e w' => e = .returned (.bool true) ∧ Below w.heap.size w w' := by
  by_cases hi : 1048576 < s.size ∨ i < 1 ∨ (s.size : Int) < i
  · exact insert_out s i c w hs hi
  · obtain ⟨n, rfl⟩ : ∃ n : Nat, i = n := ⟨i.toNat, by omega⟩
    have e : ((UInt8.ofNat c.toNat).toNat : Int) = c := by
      rw [UInt8.toNat_ofNat_of_lt' (by show c.toNat < 256; omega)]; omega
    have k := insert_main s n (UInt8.ofNat c.toNat) w (by omega) (by omega) (by omega)
    rw [e] at k
    exact k
end Go.Proofs.Qxb6627944a
