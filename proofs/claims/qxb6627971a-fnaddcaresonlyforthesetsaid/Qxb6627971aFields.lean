/-
  THE WALKS of ZZFields (8) and of the two bounds on the length (5, 10).
-/
import Derived.Test.Qxb6627971aWordsOf
namespace Go.Proofs.Qxb6627971a
open Go.RowKit

set_option maxRecDepth 100000 in
set_option maxHeartbeats 1000000 in
theorem fields_any (T : Nat) (t : TL) (v2 v3 v4 v5 : Value) (w : World) (h : Tw w T t v2 v3 v4 v5) :
    Calls Try.prog 8 #[.pointer (some ⟨T, 0, none⟩)] w fun e w' => e = .returned (.tuple #[.int .i64 t.base, .bool t.gaps, v2, v3, v4, v5]) ∧ ∃ n, w.drewN n = w' := by
  have q0 := h.c0
  have q1 := h.c1
  have q2 := h.c2
  have q3 := h.c3
  have q4 := h.c4
  have q5 := h.c5
  clear h
  go_enter Try.func8, Try.ntmps8
  go_wp2_with fail
  go_quiet (fail)
  go_wp2
  refine bodyPost_ret (v := .tuple #[.int .i64 t.base, .bool t.gaps, v2, v3, v4, v5]) (by simp [results, Try.results8, go_sem]) rfl ⟨rfl, _, rfl⟩

theorem bytes5 (av : Option Addr) (n cap : Nat) (w : World) (hn : n ≤ 65536) : Calls Try.prog 5 #[.slice av n cap] w fun e w' => e = .returned (.bool true) ∧ w = w' := by
  go_enter Try.func5, Try.ntmps5
  go_wp2
  go_ret
  exact ⟨rfl, rfl⟩
theorem bytes10 (av : Option Addr) (n cap : Nat) (w : World) (hn : n ≤ 65536) : Calls Try.prog 10 #[.slice av n cap] w fun e w' => e = .returned (.bool true) ∧ w = w' := by
  go_enter Try.func10, Try.ntmps10
  go_wp2
  go_ret
  exact ⟨rfl, rfl⟩
def BoolSaid (w : World) (e : Ending) (w' : World) : Prop := ∃ b, e = .returned (.bool b) ∧ w = w'
theorem bytes5_any (av : Option Addr) (n cap : Nat) (w : World) (hn : n ≤ 9223372036854775807) : Calls Try.prog 5 #[.slice av n cap] w fun e w' => BoolSaid w e w' := by
  go_enter Try.func5, Try.ntmps5
  by_cases h : n ≤ 1048576
  · go_wp2
    go_ret
    exact ⟨_, rfl, rfl⟩
  · have t1 : decide ((1048576 : Int) < n) = true := by simp; omega
    go_wp2
    go_ret
    exact ⟨_, rfl, rfl⟩
theorem bytes10_any (av : Option Addr) (n cap : Nat) (w : World) (hn : n ≤ 9223372036854775807) : Calls Try.prog 10 #[.slice av n cap] w fun e w' => BoolSaid w e w' := by
  go_enter Try.func10, Try.ntmps10
  by_cases h : n ≤ 1048576
  · go_wp2
    go_ret
    exact ⟨_, rfl, rfl⟩
  · have t1 : decide ((1048576 : Int) < n) = true := by simp; omega
    go_wp2
    go_ret
    exact ⟨_, rfl, rfl⟩
end Go.Proofs.Qxb6627971a
