/-
  THE WALKS of zzLearnedStat (7) and of FnLearnIdempotentAndAsDocumented (3).
-/
import Derived.Test.Qxb6627893aBox
import Derived.Deep.QuietTactic
import Derived.BigQuiet
namespace Go.Proofs.Qxb6627893a
open Go.RowKit

set_option maxHeartbeats 2000000 in
theorem stat_any (ek t k : ByteArray) (s0 st : St) (w : World) :
    Calls Try.prog 7 #[.string ek, .agg #[.int .u64 s0.a, .int .i64 s0.b, .int .i64 s0.c, .int .u32 s0.d, .int .u32 s0.e, .int .u32 s0.f, .int .i64 s0.g], .string t, .string k, .agg #[.int .u64 st.a, .int .i64 st.b, .int .i64 st.c, .int .u32 st.d, .int .u32 st.e, .int .u32 st.f, .int .i64 st.g]] w
      fun e w' => e = .returned (.agg #[.int .u64 (learnStat ek s0 t k st).a, .int .i64 (learnStat ek s0 t k st).b, .int .i64 (learnStat ek s0 t k st).c, .int .u32 (learnStat ek s0 t k st).d, .int .u32 (learnStat ek s0 t k st).e, .int .u32 (learnStat ek s0 t k st).f, .int .i64 (learnStat ek s0 t k st).g]) ∧ Below w.heap.size w w' := by
  by_cases hk : k.toList = []
  · cases hw : writes t
    · rw [show learnStat ek s0 t k st = s0 from by rw [learnStat_none hk]; exact if_neg (by simp [hw])]
      have h7 : (t.toList == [119, 114, 105, 116, 101]) = false := hw
      clear hw
      go_enter Try.func7, Try.ntmps7
      go_wp2_with fail
      refine (kind_any ek k _).mono ?_
      rintro e w1 ⟨rfl, rfl⟩
      go_wp2
      exact bodyPost_ret (v := .agg #[.int .u64 s0.a, .int .i64 s0.b, .int .i64 s0.c, .int .u32 s0.d, .int .u32 s0.e, .int .u32 s0.f, .int .i64 s0.g]) (by simp [results, Try.results7, go_sem]) rfl ⟨rfl, by repeat (first | exact Below.refl _ _ | apply below_new)⟩
    · rw [show learnStat ek s0 t k st = { s0 with b := -1 } from by rw [learnStat_none hk]; exact if_pos hw]
      have h7 : (t.toList == [119, 114, 105, 116, 101]) = true := hw
      clear hw
      go_enter Try.func7, Try.ntmps7
      go_wp2_with fail
      refine (kind_any ek k _).mono ?_
      rintro e w1 ⟨rfl, rfl⟩
      go_wp2
      exact bodyPost_ret (v := .agg #[.int .u64 s0.a, .int .i64 (-1), .int .i64 s0.c, .int .u32 s0.d, .int .u32 s0.e, .int .u32 s0.f, .int .i64 s0.g]) (by simp [results, Try.results7, go_sem]) rfl ⟨rfl, by repeat (first | exact Below.refl _ _ | apply below_new)⟩
  · have h6 : k.toList.isEmpty = false := by simpa using hk
    by_cases hn : k.toList = (learnKind ek k).toList
    · have h8 : (k.toList == (learnKind ek k).toList) = true := by simpa using hn
      cases hw : writes t
      · by_cases hb : s0.b = -1
        · rw [show learnStat ek s0 t k st = st from by rw [learnStat_seen hk hn]; exact if_pos (Or.inr hb)]
          have h7 : (t.toList == [119, 114, 105, 116, 101]) = false := hw
          have h9 : (s0.b != -1) = false := by simp [hb]
          clear hw hb hn hk
          go_enter Try.func7, Try.ntmps7
          go_wp2_with fail
          refine (kind_any ek k _).mono ?_
          rintro e w1 ⟨rfl, rfl⟩
          go_wp2
          exact bodyPost_ret (v := .agg #[.int .u64 st.a, .int .i64 st.b, .int .i64 st.c, .int .u32 st.d, .int .u32 st.e, .int .u32 st.f, .int .i64 st.g]) (by simp [results, Try.results7, go_sem]) rfl ⟨rfl, by repeat (first | exact Below.refl _ _ | apply below_new)⟩
        · rw [show learnStat ek s0 t k st = { st with b := s0.b, c := s0.c } from by rw [learnStat_seen hk hn]; exact if_neg (by rw [hw]; simp; exact hb)]
          have h7 : (t.toList == [119, 114, 105, 116, 101]) = false := hw
          have h9 : (s0.b != -1) = true := by simp [hb]
          clear hw hb hn hk
          go_enter Try.func7, Try.ntmps7
          go_wp2_with fail
          refine (kind_any ek k _).mono ?_
          rintro e w1 ⟨rfl, rfl⟩
          go_wp2
          exact bodyPost_ret (v := .agg #[.int .u64 st.a, .int .i64 s0.b, .int .i64 s0.c, .int .u32 st.d, .int .u32 st.e, .int .u32 st.f, .int .i64 st.g]) (by simp [results, Try.results7, go_sem]) rfl ⟨rfl, by repeat (first | exact Below.refl _ _ | apply below_new)⟩
      · rw [show learnStat ek s0 t k st = st from by rw [learnStat_seen hk hn]; exact if_pos (Or.inl hw)]
        have h7 : (t.toList == [119, 114, 105, 116, 101]) = true := hw
        clear hw hn hk
        go_enter Try.func7, Try.ntmps7
        go_wp2_with fail
        refine (kind_any ek k _).mono ?_
        rintro e w1 ⟨rfl, rfl⟩
        go_wp2
        exact bodyPost_ret (v := .agg #[.int .u64 st.a, .int .i64 st.b, .int .i64 st.c, .int .u32 st.d, .int .u32 st.e, .int .u32 st.f, .int .i64 st.g]) (by simp [results, Try.results7, go_sem]) rfl ⟨rfl, by repeat (first | exact Below.refl _ _ | apply below_new)⟩
    · rw [show learnStat ek s0 t k st = s0 from learnStat_other hk hn]
      have h8 : (k.toList == (learnKind ek k).toList) = false := by simpa using hn
      clear hn hk
      go_enter Try.func7, Try.ntmps7
      go_wp2_with fail
      refine (kind_any ek k _).mono ?_
      rintro e w1 ⟨rfl, rfl⟩
      go_wp2
      exact bodyPost_ret (v := .agg #[.int .u64 s0.a, .int .i64 s0.b, .int .i64 s0.c, .int .u32 s0.d, .int .u32 s0.e, .int .u32 s0.f, .int .i64 s0.g]) (by simp [results, Try.results7, go_sem]) rfl ⟨rfl, by repeat (first | exact Below.refl _ _ | apply below_new)⟩

set_option maxHeartbeats 400000 in
theorem bytes5 (ek t k : ByteArray) (s0 st : St) (w : World) (h1 : ek.size ≤ 262144) (h2 : t.size ≤ 262144) (h3 : k.size ≤ 262144) :
    Calls Try.prog 5 #[.string ek, .agg #[.int .u64 s0.a, .int .i64 s0.b, .int .i64 s0.c, .int .u32 s0.d, .int .u32 s0.e, .int .u32 s0.f, .int .i64 s0.g], .string t, .string k, .agg #[.int .u64 st.a, .int .i64 st.b, .int .i64 st.c, .int .u32 st.d, .int .u32 st.e, .int .u32 st.f, .int .i64 st.g]] w
      fun e w' => e = .returned (.bool true) ∧ ∃ c1 c2 : Array Value, w' = (w.alloc (.cells c1 25)).alloc (.cells c2 25) := by
  go_enter Try.func5, Try.ntmps5
  go_wp2
  go_ret
  exact ⟨rfl, _, _, rfl⟩

theorem Box.later {w w' : World} {B : Nat} {s : St} (h : Box w B s) (hb : Below w.heap.size w w') : Box w' B s :=
  have c := fun j => hb.cell (p := ⟨B, j, none⟩) h.lt
  ⟨Nat.lt_of_lt_of_le h.lt hb.size, (c 0).trans h.c0, (c 1).trans h.c1, (c 2).trans h.c2, (c 3).trans h.c3, (c 4).trans h.c4, (c 5).trans h.c5, (c 6).trans h.c6⟩

/-- The two Stats, as they came in, lie in boxes N, N+1. -/
structure Pair (w wr : World) (s0 st : St) : Prop where
  below : Below w.heap.size w wr
  x0 : Box wr w.heap.size s0
  x1 : Box wr (w.heap.size + 1) st
theorem Pair.kept {w wr wx : World} {s0 st : St} {E : Nat} (h : Pair w wr s0 st) (hk : Keep E wr wx) (hE : w.heap.size + 2 ≤ E) : Pair w wx s0 st :=
  ⟨hk.below h.below (by omega), h.x0.kept hk (by omega), h.x1.kept hk (by omega)⟩
theorem Pair.alloc {w wr : World} {s0 st : St} (h : Pair w wr s0 st) (o : Obj) : Pair w (wr.alloc o) s0 st := ⟨below_new h.below o, h.x0.alloc o, h.x1.alloc o⟩
theorem Pair.later {w wr wx : World} {s0 st : St} (h : Pair w wr s0 st) (hb : Below wr.heap.size wr wx) : Pair w wx s0 st := ⟨h.below.trans (hb.mono h.below.size), h.x0.later hb, h.x1.later hb⟩
theorem Pair.first (w : World) (s0 st : St) : Pair w ((w.alloc (.cells #[.int .u64 s0.a, .int .i64 s0.b, .int .i64 s0.c, .int .u32 s0.d, .int .u32 s0.e, .int .u32 s0.f, .int .i64 s0.g] 25)).alloc (.cells #[.int .u64 st.a, .int .i64 st.b, .int .i64 st.c, .int .u32 st.d, .int .u32 st.e, .int .u32 st.f, .int .i64 st.g] 25)) s0 st :=
  ⟨below_new (below_new (Below.refl _ _) _) _, (Box.mk' w s0 25 _ rfl).alloc _, Box.mk' _ st 25 _ (by simp)⟩

set_option maxHeartbeats 2000000 in
theorem twice_main (ek t k : ByteArray) (s0 st : St) (w : World) (h1 : ek.size ≤ 262144) (h2 : t.size ≤ 262144) (h3 : k.size ≤ 262144) :
    Calls Try.prog 3 #[.string ek, .agg #[.int .u64 s0.a, .int .i64 s0.b, .int .i64 s0.c, .int .u32 s0.d, .int .u32 s0.e, .int .u32 s0.f, .int .i64 s0.g], .string t, .string k, .agg #[.int .u64 st.a, .int .i64 st.b, .int .i64 st.c, .int .u32 st.d, .int .u32 st.e, .int .u32 st.f, .int .i64 st.g]] w
      fun e w' => e = .returned (.bool true) ∧ Below w.heap.size w w' := by
  have HKK : Hid (learnKind (learnKind ek k) k = learnKind ek k) := learnKind_twice ek k
  have HSS : Hid (learnStat (learnKind ek k) (learnStat ek s0 t k st) t k st = learnStat ek s0 t k st) := learnStat_twice ek s0 t k st
  go_enter Try.func3, Try.ntmps3
  go_wp2_with fail
  refine (bytes5 ek t k s0 st _ h1 h2 h3).mono ?_
  rintro e w1 ⟨rfl, c1, c2, rfl⟩
  go_wp2_with fail
  refine (kind_any ek k _).mono ?_
  rintro e w1 ⟨rfl, rfl⟩
  go_wp2_with fail
  have hX := ((Pair.first w s0 st).alloc (.cells c1 25)).alloc (.cells c2 25)
  refine (stat_any ek t k s0 st _).mono ?_
  rintro e w1 ⟨rfl, hb1⟩
  have hX1 := hX.later hb1
  have hz : w.heap.size + 2 ≤ w1.heap.size := by have := hX1.x1.lt; omega
  clear hX hb1
  obtain ⟨_, y0, y1, y2, y3, y4, y5, y6⟩ := hX1.x0
  obtain ⟨_, x0, x1, x2, x3, x4, x5, x6⟩ := hX1.x1
  go_wp2_with fail
  have hV := (Box.mk' w1 (learnStat ek s0 t k st) 25 w1.heap.size rfl)
  have hX2 := hX1.alloc (.cells #[.int .u64 (learnStat ek s0 t k st).a, .int .i64 (learnStat ek s0 t k st).b, .int .i64 (learnStat ek s0 t k st).c, .int .u32 (learnStat ek s0 t k st).d, .int .u32 (learnStat ek s0 t k st).e, .int .u32 (learnStat ek s0 t k st).f, .int .i64 (learnStat ek s0 t k st).g] 25)
  refine (learn_any _ ek t k s0 st _ (Ent.mk' _ ek s0 34 _ (by simp))).mono ?_
  rintro e w2 ⟨rfl, hE2, hK2⟩
  have hX3 := (hX2.alloc _).kept hK2 (by omega)
  have hV3 := (hV.alloc _).kept hK2 (by omega)
  clear hX1 hX2 hV hK2 y0 y1 y2 y3 y4 y5 y6 x0 x1 x2 x3 x4 x5 x6
  generalize hS : learnStat ek s0 t k st = S at *
  generalize hKK : learnKind ek k = KK at *
  have HS : Hid (learnStat ek s0 t k st = S) := hS
  have HK : Hid (learnKind ek k = KK) := hKK
  clear hS hKK
  generalize hA : w1.heap.size + 1 = A at *
  generalize w1.heap.size = V at *
  have hVA : V < A := by omega
  have hA2 : w.heap.size + 2 ≤ A := by omega
  clear hA
  obtain ⟨_, y0, y1, y2, y3, y4, y5, y6⟩ := hX3.x0
  obtain ⟨_, x0, x1, x2, x3, x4, x5, x6⟩ := hX3.x1
  go_wp2_with fail
  have hlt := hE2.lt
  refine (learn_any _ ek t k s0 st _ (Ent.mk' _ ek s0 34 _ rfl)).mono ?_
  rintro e w3 ⟨rfl, hE3, hK3⟩
  have hX4 := (hX3.alloc _).kept hK3 (by omega)
  have hV4 := (hV3.alloc _).kept hK3 (by omega)
  have hEa := (hE2.alloc _).kept hK3 (by omega)
  rw [HS.out, HK.out] at hE3
  clear hX3 hV3 hE2 hK3 y0 y1 y2 y3 y4 y5 y6 x0 x1 x2 x3 x4 x5 x6
  generalize w2.heap.size = B at *
  obtain ⟨_, x0, x1, x2, x3, x4, x5, x6⟩ := hX4.x1
  go_wp2_with fail
  refine (learn_any B KK t k S st _ hE3).mono ?_
  rintro e w4 ⟨rfl, hE4, hK4⟩
  rw [HSS.out, HKK.out] at hE4
  have hX5 := hX4.kept hK4 (by omega)
  have hV5 := hV4.kept hK4 (by omega)
  have hEb := hEa.kept hK4 (by omega)
  clear hX4 hV4 hE3 hEa hK4 x0 x1 x2 x3 x4 x5 x6
  obtain ⟨ltA, a0, a1, a2, a3, a4, a5, a6, a7, a8, _⟩ := hEb
  obtain ⟨ltB, b0, b1, b2, b3, b4, b5, b6, b7, b8, _⟩ := hE4
  obtain ⟨ltV, v0, v1, v2, v3, v4, v5, v6⟩ := hV5
  go_wp2
  go_quiet (fail)
  go_wp2
  go_quiet (fail)
  go_wp2
  go_ret
  exact ⟨rfl, below_drewN (below_drewN hX5.below _) _⟩

set_option maxRecDepth 100000 in
set_option maxHeartbeats 2000000 in
theorem twice_long (ek t k : ByteArray) (s0 st : St) (w : World) (h1 : ek.size ≤ 9223372036854775807) (h2 : t.size ≤ 9223372036854775807) (h3 : k.size ≤ 9223372036854775807)
    (hl : 262144 < ek.size ∨ 262144 < t.size ∨ 262144 < k.size) :
    Calls Try.prog 3 #[.string ek, .agg #[.int .u64 s0.a, .int .i64 s0.b, .int .i64 s0.c, .int .u32 s0.d, .int .u32 s0.e, .int .u32 s0.f, .int .i64 s0.g], .string t, .string k, .agg #[.int .u64 st.a, .int .i64 st.b, .int .i64 st.c, .int .u32 st.d, .int .u32 st.e, .int .u32 st.f, .int .i64 st.g]] w
      fun e w' => e = .returned (.bool true) ∧ Below w.heap.size w w' := by
  by_cases c0 : 1048576 < ek.size
  · clear hl
    go_enter Try.func3, Try.ntmps3
    go_wp2
    go_ret
    exact ⟨rfl, by repeat (first | exact Below.refl _ _ | apply below_new)⟩
  by_cases c1 : 1048576 < t.size
  · clear hl
    go_enter Try.func3, Try.ntmps3
    go_wp2
    go_ret
    exact ⟨rfl, by repeat (first | exact Below.refl _ _ | apply below_new)⟩
  by_cases c2 : 1048576 < ek.size + t.size
  · clear hl
    go_enter Try.func3, Try.ntmps3
    go_wp2
    go_ret
    exact ⟨rfl, by repeat (first | exact Below.refl _ _ | apply below_new)⟩
  by_cases c3 : 1048576 < k.size
  · clear hl
    go_enter Try.func3, Try.ntmps3
    go_wp2
    go_ret
    exact ⟨rfl, by repeat (first | exact Below.refl _ _ | apply below_new)⟩
  by_cases c4 : 1048576 < ek.size + t.size + k.size
  · clear hl
    go_enter Try.func3, Try.ntmps3
    go_wp2
    go_ret
    exact ⟨rfl, by repeat (first | exact Below.refl _ _ | apply below_new)⟩
  by_cases c5 : 262144 < ek.size
  · clear hl
    go_enter Try.func3, Try.ntmps3
    go_wp2
    go_ret
    exact ⟨rfl, by repeat (first | exact Below.refl _ _ | apply below_new)⟩
  by_cases c6 : 262144 < t.size
  · clear hl
    go_enter Try.func3, Try.ntmps3
    go_wp2
    go_ret
    exact ⟨rfl, by repeat (first | exact Below.refl _ _ | apply below_new)⟩
  have c9 : 262144 < k.size := by omega
  clear hl
  go_enter Try.func3, Try.ntmps3
  go_wp2
  go_ret
  exact ⟨rfl, by repeat (first | exact Below.refl _ _ | apply below_new)⟩

theorem twice_any (ek t k : ByteArray) (s0 st : St) (w : World) (h1 : ek.size ≤ 9223372036854775807) (h2 : t.size ≤ 9223372036854775807) (h3 : k.size ≤ 9223372036854775807) :
    Calls Try.prog 3 #[.string ek, .agg #[.int .u64 s0.a, .int .i64 s0.b, .int .i64 s0.c, .int .u32 s0.d, .int .u32 s0.e, .int .u32 s0.f, .int .i64 s0.g], .string t, .string k, .agg #[.int .u64 st.a, .int .i64 st.b, .int .i64 st.c, .int .u32 st.d, .int .u32 st.e, .int .u32 st.f, .int .i64 st.g]] w
      fun e w' => e = .returned (.bool true) ∧ Below w.heap.size w w' := by
  by_cases hl : ek.size ≤ 262144 ∧ t.size ≤ 262144 ∧ k.size ≤ 262144
  · exact twice_main ek t k s0 st w hl.1 hl.2.1 hl.2.2
  · exact twice_long ek t k s0 st w h1 h2 h3 (by omega)
end Go.Proofs.Qxb6627893a
