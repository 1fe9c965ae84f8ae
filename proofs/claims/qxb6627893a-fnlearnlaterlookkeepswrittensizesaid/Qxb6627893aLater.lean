/-
  THE WALK of FnLearnLaterLookKeepsWrittenSize (4), route by route.
-/
import Derived.Test.Qxb6627893aBox
import Derived.Deep.QuietTactic
import Derived.BigQuiet
namespace Go.Proofs.Qxb6627893a
open Go.RowKit

set_option maxHeartbeats 400000 in
theorem bytes9 (ek k t2 : ByteArray) (s0 st1 st2 : St) (w : World) (h1 : ek.size ≤ 262144) (h2 : k.size ≤ 262144) (h3 : t2.size ≤ 262144) :
    Calls Try.prog 9 #[.string ek, .agg #[.int .u64 s0.a, .int .i64 s0.b, .int .i64 s0.c, .int .u32 s0.d, .int .u32 s0.e, .int .u32 s0.f, .int .i64 s0.g], .string k, .agg #[.int .u64 st1.a, .int .i64 st1.b, .int .i64 st1.c, .int .u32 st1.d, .int .u32 st1.e, .int .u32 st1.f, .int .i64 st1.g], .string t2, .agg #[.int .u64 st2.a, .int .i64 st2.b, .int .i64 st2.c, .int .u32 st2.d, .int .u32 st2.e, .int .u32 st2.f, .int .i64 st2.g]] w
      fun e w' => e = .returned (.bool true) ∧ ∃ c1 c2 c3 : Array Value, w' = ((w.alloc (.cells c1 25)).alloc (.cells c2 25)).alloc (.cells c3 25) := by
  go_enter Try.func9, Try.ntmps9
  go_wp2
  go_ret
  exact ⟨rfl, _, _, _, rfl⟩


/-- The three Stats, as they came in, lie in boxes N, N+1, N+2. -/
structure Boxes (w wr : World) (s0 st1 st2 : St) : Prop where
  below : Below w.heap.size w wr
  x0 : Box wr w.heap.size s0
  x1 : Box wr (w.heap.size + 1) st1
  x2 : Box wr (w.heap.size + 1 + 1) st2
theorem Boxes.kept {w wr wx : World} {s0 st1 st2 : St} {E : Nat} (h : Boxes w wr s0 st1 st2) (hk : Keep E wr wx) (hE : w.heap.size + 3 ≤ E) : Boxes w wx s0 st1 st2 :=
  ⟨hk.below h.below (by omega), h.x0.kept hk (by omega), h.x1.kept hk (by omega), h.x2.kept hk (by omega)⟩
theorem Boxes.alloc {w wr : World} {s0 st1 st2 : St} (h : Boxes w wr s0 st1 st2) (o : Obj) : Boxes w (wr.alloc o) s0 st1 st2 := ⟨below_new h.below o, h.x0.alloc o, h.x1.alloc o, h.x2.alloc o⟩
theorem Boxes.first (w : World) (s0 st1 st2 : St) : Boxes w (((w.alloc (.cells #[.int .u64 s0.a, .int .i64 s0.b, .int .i64 s0.c, .int .u32 s0.d, .int .u32 s0.e, .int .u32 s0.f, .int .i64 s0.g] 25)).alloc (.cells #[.int .u64 st1.a, .int .i64 st1.b, .int .i64 st1.c, .int .u32 st1.d, .int .u32 st1.e, .int .u32 st1.f, .int .i64 st1.g] 25)).alloc (.cells #[.int .u64 st2.a, .int .i64 st2.b, .int .i64 st2.c, .int .u32 st2.d, .int .u32 st2.e, .int .u32 st2.f, .int .i64 st2.g] 25)) s0 st1 st2 :=
  ⟨below_new (below_new (below_new (Below.refl _ _) _) _) _, ((Box.mk' w s0 25 _ rfl).alloc _).alloc _, (Box.mk' _ st1 25 _ (by simp)).alloc _, Box.mk' _ st2 25 _ (by simp)⟩


set_option maxHeartbeats 2000000 in
theorem later1 (ek k t2 : ByteArray) (s0 st1 st2 : St) (w : World) (h1 : ek.size ≤ 262144) (h2 : k.size ≤ 262144) (h3 : t2.size ≤ 262144) (hk : k.toList = []) :
    Calls Try.prog 4 #[.string ek, .agg #[.int .u64 s0.a, .int .i64 s0.b, .int .i64 s0.c, .int .u32 s0.d, .int .u32 s0.e, .int .u32 s0.f, .int .i64 s0.g], .string k, .agg #[.int .u64 st1.a, .int .i64 st1.b, .int .i64 st1.c, .int .u32 st1.d, .int .u32 st1.e, .int .u32 st1.f, .int .i64 st1.g], .string t2, .agg #[.int .u64 st2.a, .int .i64 st2.b, .int .i64 st2.c, .int .u32 st2.d, .int .u32 st2.e, .int .u32 st2.f, .int .i64 st2.g]] w
      fun e w' => e = .returned (.bool true) ∧ Below w.heap.size w w' := by
  have HA : Hid (learnStat (learnKind ek k) (learnStat ek s0 ⟨#[119, 114, 105, 116, 101]⟩ k st1) t2 k st2 = { s0 with b := -1 }) := by
    show _ = _
    rw [learnStat_none hk, learnStat_none hk, if_pos wWrites]
    split <;> rfl
  have HB : Hid (learnStat ek s0 ⟨#[119, 114, 105, 116, 101]⟩ k st2 = { s0 with b := -1 }) := by
    show _ = _
    rw [learnStat_none hk, if_pos wWrites]
  have HKK : Hid (learnKind (learnKind ek k) k = learnKind ek k) := learnKind_twice ek k
  go_enter Try.func4, Try.ntmps4
  go_wp2_with fail
  refine (bytes9 ek k t2 s0 st1 st2 _ h1 h2 h3).mono ?_
  rintro e w1 ⟨rfl, c1, c2, c3, rfl⟩
  go_wp2_with fail
  refine (kind_any ek k _).mono ?_
  rintro e w1 ⟨rfl, rfl⟩
  have hX := (((Boxes.first w s0 st1 st2).alloc (.cells c1 25)).alloc (.cells c2 25)).alloc (.cells c3 25)
  go_wp2_with fail
  refine (learn_any _ ek _ k s0 st1 _ (Ent.mk' _ ek s0 34 _ (by simp))).mono ?_
  rintro e w1 ⟨rfl, hE1, hK1⟩
  have hX1 := (hX.alloc _).kept hK1 (by omega)
  clear hK1 hX
  generalize hA : w.heap.size + 1 + 1 + 1 + 1 + 1 + 1 = A at *
  have hA' : w.heap.size + 3 ≤ A := by omega
  clear hA
  obtain ⟨_, y0, y1, y2, y3, y4, y5, y6⟩ := hX1.x2
  go_wp2_with fail
  refine (learn_any _ _ t2 k _ st2 _ hE1).mono ?_
  rintro e w2 ⟨rfl, hE2, hK2⟩
  rw [HA.out, HKK.out] at hE2
  have hX2 := hX1.kept hK2 hA'
  clear hX1 hE1 hK2 y0 y1 y2 y3 y4 y5 y6
  obtain ⟨_, y0, y1, y2, y3, y4, y5, y6⟩ := hX2.x2
  obtain ⟨_, z0, z1, z2, z3, z4, z5, z6⟩ := hX2.x0
  go_wp2_with fail
  refine (learn_any _ ek _ k s0 st2 _ (Ent.mk' _ ek s0 34 _ rfl)).mono ?_
  rintro e w3 ⟨rfl, hE3, hK3⟩
  have hlt := hE2.lt
  rw [HB.out] at hE3
  have hEa := (hE2.alloc _).kept hK3 (by omega)
  have hX3 := (hX2.alloc _).kept hK3 (by omega)
  have hne : A ≠ w2.heap.size := by omega
  generalize w2.heap.size = B at *
  clear y0 y1 y2 y3 y4 y5 y6 z0 z1 z2 z3 z4 z5 z6 hX2 hK3 hE2
  obtain ⟨ltA, a0, a1, a2, a3, a4, a5, a6, a7, a8, _⟩ := hEa
  obtain ⟨ltB, b0, b1, b2, b3, b4, b5, b6, b7, b8, _⟩ := hE3
  obtain ⟨ltz, z0, z1, z2, z3, z4, z5, z6⟩ := hX3.x0
  obtain ⟨ltx, x0, x1, x2, x3, x4, x5, x6⟩ := hX3.x1
  obtain ⟨lty, y0, y1, y2, y3, y4, y5, y6⟩ := hX3.x2
  go_wp2
  go_quiet (fail)
  go_wp2
  go_ret
  exact ⟨rfl, below_drewN (below_new hX3.below _) _⟩

set_option maxHeartbeats 2000000 in
theorem later2 (ek k t2 : ByteArray) (s0 st1 st2 : St) (w : World) (h1 : ek.size ≤ 262144) (h2 : k.size ≤ 262144) (h3 : t2.size ≤ 262144) (hk : k.toList ≠ []) (hn : k.toList ≠ (learnKind ek k).toList) :
    Calls Try.prog 4 #[.string ek, .agg #[.int .u64 s0.a, .int .i64 s0.b, .int .i64 s0.c, .int .u32 s0.d, .int .u32 s0.e, .int .u32 s0.f, .int .i64 s0.g], .string k, .agg #[.int .u64 st1.a, .int .i64 st1.b, .int .i64 st1.c, .int .u32 st1.d, .int .u32 st1.e, .int .u32 st1.f, .int .i64 st1.g], .string t2, .agg #[.int .u64 st2.a, .int .i64 st2.b, .int .i64 st2.c, .int .u32 st2.d, .int .u32 st2.e, .int .u32 st2.f, .int .i64 st2.g]] w
      fun e w' => e = .returned (.bool true) ∧ Below w.heap.size w w' := by
  have HA : Hid (learnStat (learnKind ek k) (learnStat ek s0 ⟨#[119, 114, 105, 116, 101]⟩ k st1) t2 k st2 = s0) := by
    show _ = _
    rw [learnStat_other hk (by rw [learnKind_twice]; exact hn), learnStat_other hk hn]
  have HB : Hid (learnStat ek s0 ⟨#[119, 114, 105, 116, 101]⟩ k st2 = s0) := by
    show _ = _
    rw [learnStat_other hk hn]
  have HKK : Hid (learnKind (learnKind ek k) k = learnKind ek k) := learnKind_twice ek k
  have t1 : k.toList.isEmpty = false := by simpa using hk
  have t2' : (k.toList == (learnKind ek k).toList) = false := by simpa using hn
  clear hk hn
  go_enter Try.func4, Try.ntmps4
  go_wp2_with fail
  refine (bytes9 ek k t2 s0 st1 st2 _ h1 h2 h3).mono ?_
  rintro e w1 ⟨rfl, c1, c2, c3, rfl⟩
  go_wp2_with fail
  refine (kind_any ek k _).mono ?_
  rintro e w1 ⟨rfl, rfl⟩
  have hX := (((Boxes.first w s0 st1 st2).alloc (.cells c1 25)).alloc (.cells c2 25)).alloc (.cells c3 25)
  go_wp2_with fail
  refine (learn_any _ ek _ k s0 st1 _ (Ent.mk' _ ek s0 34 _ (by simp))).mono ?_
  rintro e w1 ⟨rfl, hE1, hK1⟩
  have hX1 := (hX.alloc _).kept hK1 (by omega)
  clear hK1 hX
  generalize hA : w.heap.size + 1 + 1 + 1 + 1 + 1 + 1 = A at *
  have hA' : w.heap.size + 3 ≤ A := by omega
  clear hA
  obtain ⟨_, y0, y1, y2, y3, y4, y5, y6⟩ := hX1.x2
  go_wp2_with fail
  refine (learn_any _ _ t2 k _ st2 _ hE1).mono ?_
  rintro e w2 ⟨rfl, hE2, hK2⟩
  rw [HA.out, HKK.out] at hE2
  have hX2 := hX1.kept hK2 hA'
  clear hX1 hE1 hK2 y0 y1 y2 y3 y4 y5 y6
  obtain ⟨_, y0, y1, y2, y3, y4, y5, y6⟩ := hX2.x2
  obtain ⟨_, z0, z1, z2, z3, z4, z5, z6⟩ := hX2.x0
  go_wp2_with fail
  refine (learn_any _ ek _ k s0 st2 _ (Ent.mk' _ ek s0 34 _ rfl)).mono ?_
  rintro e w3 ⟨rfl, hE3, hK3⟩
  have hlt := hE2.lt
  rw [HB.out] at hE3
  have hEa := (hE2.alloc _).kept hK3 (by omega)
  have hX3 := (hX2.alloc _).kept hK3 (by omega)
  have hne : A ≠ w2.heap.size := by omega
  generalize w2.heap.size = B at *
  clear y0 y1 y2 y3 y4 y5 y6 z0 z1 z2 z3 z4 z5 z6 hX2 hK3 hE2
  obtain ⟨ltA, a0, a1, a2, a3, a4, a5, a6, a7, a8, _⟩ := hEa
  obtain ⟨ltB, b0, b1, b2, b3, b4, b5, b6, b7, b8, _⟩ := hE3
  obtain ⟨ltz, z0, z1, z2, z3, z4, z5, z6⟩ := hX3.x0
  obtain ⟨ltx, x0, x1, x2, x3, x4, x5, x6⟩ := hX3.x1
  obtain ⟨lty, y0, y1, y2, y3, y4, y5, y6⟩ := hX3.x2
  go_wp2
  go_quiet (fail)
  go_wp2
  go_ret
  exact ⟨rfl, below_drewN hX3.below _⟩

set_option maxHeartbeats 2000000 in
theorem later3 (ek k t2 : ByteArray) (s0 st1 st2 : St) (w : World) (h1 : ek.size ≤ 262144) (h2 : k.size ≤ 262144) (h3 : t2.size ≤ 262144) (hk : k.toList ≠ []) (hn : k.toList = (learnKind ek k).toList) (hw : writes t2 = true) :
    Calls Try.prog 4 #[.string ek, .agg #[.int .u64 s0.a, .int .i64 s0.b, .int .i64 s0.c, .int .u32 s0.d, .int .u32 s0.e, .int .u32 s0.f, .int .i64 s0.g], .string k, .agg #[.int .u64 st1.a, .int .i64 st1.b, .int .i64 st1.c, .int .u32 st1.d, .int .u32 st1.e, .int .u32 st1.f, .int .i64 st1.g], .string t2, .agg #[.int .u64 st2.a, .int .i64 st2.b, .int .i64 st2.c, .int .u32 st2.d, .int .u32 st2.e, .int .u32 st2.f, .int .i64 st2.g]] w
      fun e w' => e = .returned (.bool true) ∧ Below w.heap.size w w' := by
  have HA : Hid (learnStat (learnKind ek k) (learnStat ek s0 ⟨#[119, 114, 105, 116, 101]⟩ k st1) t2 k st2 = st2) := by
    show _ = _
    rw [learnStat_seen hk (by rw [learnKind_twice]; exact hn), learnStat_seen hk hn, if_pos (Or.inl wWrites)]
    rw [if_pos (Or.inl hw)]
  have HB : Hid (learnStat ek s0 ⟨#[119, 114, 105, 116, 101]⟩ k st2 = st2) := by
    show _ = _
    rw [learnStat_seen hk hn, if_pos (Or.inl wWrites)]
  have HKK : Hid (learnKind (learnKind ek k) k = learnKind ek k) := learnKind_twice ek k
  have t1 : k.toList.isEmpty = false := by simpa using hk
  have t2' : (k.toList == (learnKind ek k).toList) = true := by simpa using hn
  have t3 : (t2.toList == [119, 114, 105, 116, 101]) = true := hw
  clear hk hn hw
  go_enter Try.func4, Try.ntmps4
  go_wp2_with fail
  refine (bytes9 ek k t2 s0 st1 st2 _ h1 h2 h3).mono ?_
  rintro e w1 ⟨rfl, c1, c2, c3, rfl⟩
  go_wp2_with fail
  refine (kind_any ek k _).mono ?_
  rintro e w1 ⟨rfl, rfl⟩
  have hX := (((Boxes.first w s0 st1 st2).alloc (.cells c1 25)).alloc (.cells c2 25)).alloc (.cells c3 25)
  go_wp2_with fail
  refine (learn_any _ ek _ k s0 st1 _ (Ent.mk' _ ek s0 34 _ (by simp))).mono ?_
  rintro e w1 ⟨rfl, hE1, hK1⟩
  have hX1 := (hX.alloc _).kept hK1 (by omega)
  clear hK1 hX
  generalize hA : w.heap.size + 1 + 1 + 1 + 1 + 1 + 1 = A at *
  have hA' : w.heap.size + 3 ≤ A := by omega
  clear hA
  obtain ⟨_, y0, y1, y2, y3, y4, y5, y6⟩ := hX1.x2
  go_wp2_with fail
  refine (learn_any _ _ t2 k _ st2 _ hE1).mono ?_
  rintro e w2 ⟨rfl, hE2, hK2⟩
  rw [HA.out, HKK.out] at hE2
  have hX2 := hX1.kept hK2 hA'
  clear hX1 hE1 hK2 y0 y1 y2 y3 y4 y5 y6
  obtain ⟨_, y0, y1, y2, y3, y4, y5, y6⟩ := hX2.x2
  obtain ⟨_, z0, z1, z2, z3, z4, z5, z6⟩ := hX2.x0
  go_wp2_with fail
  refine (learn_any _ ek _ k s0 st2 _ (Ent.mk' _ ek s0 34 _ rfl)).mono ?_
  rintro e w3 ⟨rfl, hE3, hK3⟩
  have hlt := hE2.lt
  rw [HB.out] at hE3
  have hEa := (hE2.alloc _).kept hK3 (by omega)
  have hX3 := (hX2.alloc _).kept hK3 (by omega)
  have hne : A ≠ w2.heap.size := by omega
  generalize w2.heap.size = B at *
  clear y0 y1 y2 y3 y4 y5 y6 z0 z1 z2 z3 z4 z5 z6 hX2 hK3 hE2
  obtain ⟨ltA, a0, a1, a2, a3, a4, a5, a6, a7, a8, _⟩ := hEa
  obtain ⟨ltB, b0, b1, b2, b3, b4, b5, b6, b7, b8, _⟩ := hE3
  obtain ⟨ltz, z0, z1, z2, z3, z4, z5, z6⟩ := hX3.x0
  obtain ⟨ltx, x0, x1, x2, x3, x4, x5, x6⟩ := hX3.x1
  obtain ⟨lty, y0, y1, y2, y3, y4, y5, y6⟩ := hX3.x2
  go_wp2
  go_quiet (fail)
  go_wp2
  go_ret
  exact ⟨rfl, below_drewN (below_new hX3.below _) _⟩

set_option maxHeartbeats 2000000 in
theorem later4 (ek k t2 : ByteArray) (s0 st1 st2 : St) (w : World) (h1 : ek.size ≤ 262144) (h2 : k.size ≤ 262144) (h3 : t2.size ≤ 262144) (hk : k.toList ≠ []) (hn : k.toList = (learnKind ek k).toList) (hw : writes t2 = false) (hb : st1.b = -1) :
    Calls Try.prog 4 #[.string ek, .agg #[.int .u64 s0.a, .int .i64 s0.b, .int .i64 s0.c, .int .u32 s0.d, .int .u32 s0.e, .int .u32 s0.f, .int .i64 s0.g], .string k, .agg #[.int .u64 st1.a, .int .i64 st1.b, .int .i64 st1.c, .int .u32 st1.d, .int .u32 st1.e, .int .u32 st1.f, .int .i64 st1.g], .string t2, .agg #[.int .u64 st2.a, .int .i64 st2.b, .int .i64 st2.c, .int .u32 st2.d, .int .u32 st2.e, .int .u32 st2.f, .int .i64 st2.g]] w
      fun e w' => e = .returned (.bool true) ∧ Below w.heap.size w w' := by
  have HA : Hid (learnStat (learnKind ek k) (learnStat ek s0 ⟨#[119, 114, 105, 116, 101]⟩ k st1) t2 k st2 = st2) := by
    show _ = _
    rw [learnStat_seen hk (by rw [learnKind_twice]; exact hn), learnStat_seen hk hn, if_pos (Or.inl wWrites)]
    rw [if_pos (Or.inr hb)]
  have HB : Hid (learnStat ek s0 ⟨#[119, 114, 105, 116, 101]⟩ k st2 = st2) := by
    show _ = _
    rw [learnStat_seen hk hn, if_pos (Or.inl wWrites)]
  have HKK : Hid (learnKind (learnKind ek k) k = learnKind ek k) := learnKind_twice ek k
  have t1 : k.toList.isEmpty = false := by simpa using hk
  have t2' : (k.toList == (learnKind ek k).toList) = true := by simpa using hn
  have t3 : (t2.toList == [119, 114, 105, 116, 101]) = false := hw
  have t4 : (st1.b == -1) = true := by simpa using hb
  have t5 : (st1.b != -1) = false := by simp [hb]
  clear hk hn hw hb
  go_enter Try.func4, Try.ntmps4
  go_wp2_with fail
  refine (bytes9 ek k t2 s0 st1 st2 _ h1 h2 h3).mono ?_
  rintro e w1 ⟨rfl, c1, c2, c3, rfl⟩
  go_wp2_with fail
  refine (kind_any ek k _).mono ?_
  rintro e w1 ⟨rfl, rfl⟩
  have hX := (((Boxes.first w s0 st1 st2).alloc (.cells c1 25)).alloc (.cells c2 25)).alloc (.cells c3 25)
  go_wp2_with fail
  refine (learn_any _ ek _ k s0 st1 _ (Ent.mk' _ ek s0 34 _ (by simp))).mono ?_
  rintro e w1 ⟨rfl, hE1, hK1⟩
  have hX1 := (hX.alloc _).kept hK1 (by omega)
  clear hK1 hX
  generalize hA : w.heap.size + 1 + 1 + 1 + 1 + 1 + 1 = A at *
  have hA' : w.heap.size + 3 ≤ A := by omega
  clear hA
  obtain ⟨_, y0, y1, y2, y3, y4, y5, y6⟩ := hX1.x2
  go_wp2_with fail
  refine (learn_any _ _ t2 k _ st2 _ hE1).mono ?_
  rintro e w2 ⟨rfl, hE2, hK2⟩
  rw [HA.out, HKK.out] at hE2
  have hX2 := hX1.kept hK2 hA'
  clear hX1 hE1 hK2 y0 y1 y2 y3 y4 y5 y6
  obtain ⟨_, y0, y1, y2, y3, y4, y5, y6⟩ := hX2.x2
  obtain ⟨_, z0, z1, z2, z3, z4, z5, z6⟩ := hX2.x0
  go_wp2_with fail
  refine (learn_any _ ek _ k s0 st2 _ (Ent.mk' _ ek s0 34 _ rfl)).mono ?_
  rintro e w3 ⟨rfl, hE3, hK3⟩
  have hlt := hE2.lt
  rw [HB.out] at hE3
  have hEa := (hE2.alloc _).kept hK3 (by omega)
  have hX3 := (hX2.alloc _).kept hK3 (by omega)
  have hne : A ≠ w2.heap.size := by omega
  generalize w2.heap.size = B at *
  clear y0 y1 y2 y3 y4 y5 y6 z0 z1 z2 z3 z4 z5 z6 hX2 hK3 hE2
  obtain ⟨ltA, a0, a1, a2, a3, a4, a5, a6, a7, a8, _⟩ := hEa
  obtain ⟨ltB, b0, b1, b2, b3, b4, b5, b6, b7, b8, _⟩ := hE3
  obtain ⟨ltz, z0, z1, z2, z3, z4, z5, z6⟩ := hX3.x0
  obtain ⟨ltx, x0, x1, x2, x3, x4, x5, x6⟩ := hX3.x1
  obtain ⟨lty, y0, y1, y2, y3, y4, y5, y6⟩ := hX3.x2
  go_wp2
  go_quiet (fail)
  go_wp2
  go_ret
  exact ⟨rfl, below_drewN (below_new hX3.below _) _⟩

set_option maxHeartbeats 2000000 in
theorem later5 (ek k t2 : ByteArray) (s0 st1 st2 : St) (w : World) (h1 : ek.size ≤ 262144) (h2 : k.size ≤ 262144) (h3 : t2.size ≤ 262144) (hk : k.toList ≠ []) (hn : k.toList = (learnKind ek k).toList) (hw : writes t2 = false) (hb : st1.b ≠ -1) :
    Calls Try.prog 4 #[.string ek, .agg #[.int .u64 s0.a, .int .i64 s0.b, .int .i64 s0.c, .int .u32 s0.d, .int .u32 s0.e, .int .u32 s0.f, .int .i64 s0.g], .string k, .agg #[.int .u64 st1.a, .int .i64 st1.b, .int .i64 st1.c, .int .u32 st1.d, .int .u32 st1.e, .int .u32 st1.f, .int .i64 st1.g], .string t2, .agg #[.int .u64 st2.a, .int .i64 st2.b, .int .i64 st2.c, .int .u32 st2.d, .int .u32 st2.e, .int .u32 st2.f, .int .i64 st2.g]] w
      fun e w' => e = .returned (.bool true) ∧ Below w.heap.size w w' := by
  have HA : Hid (learnStat (learnKind ek k) (learnStat ek s0 ⟨#[119, 114, 105, 116, 101]⟩ k st1) t2 k st2 = { st2 with b := st1.b, c := st1.c }) := by
    show _ = _
    rw [learnStat_seen hk (by rw [learnKind_twice]; exact hn), learnStat_seen hk hn, if_pos (Or.inl wWrites)]
    rw [if_neg (by rw [hw]; simp; exact hb)]
  have HB : Hid (learnStat ek s0 ⟨#[119, 114, 105, 116, 101]⟩ k st2 = st2) := by
    show _ = _
    rw [learnStat_seen hk hn, if_pos (Or.inl wWrites)]
  have HKK : Hid (learnKind (learnKind ek k) k = learnKind ek k) := learnKind_twice ek k
  have t1 : k.toList.isEmpty = false := by simpa using hk
  have t2' : (k.toList == (learnKind ek k).toList) = true := by simpa using hn
  have t3 : (t2.toList == [119, 114, 105, 116, 101]) = false := hw
  have t5 : (st1.b != -1) = true := by simp [hb]
  clear hk hn hw hb
  go_enter Try.func4, Try.ntmps4
  go_wp2_with fail
  refine (bytes9 ek k t2 s0 st1 st2 _ h1 h2 h3).mono ?_
  rintro e w1 ⟨rfl, c1, c2, c3, rfl⟩
  go_wp2_with fail
  refine (kind_any ek k _).mono ?_
  rintro e w1 ⟨rfl, rfl⟩
  have hX := (((Boxes.first w s0 st1 st2).alloc (.cells c1 25)).alloc (.cells c2 25)).alloc (.cells c3 25)
  go_wp2_with fail
  refine (learn_any _ ek _ k s0 st1 _ (Ent.mk' _ ek s0 34 _ (by simp))).mono ?_
  rintro e w1 ⟨rfl, hE1, hK1⟩
  have hX1 := (hX.alloc _).kept hK1 (by omega)
  clear hK1 hX
  generalize hA : w.heap.size + 1 + 1 + 1 + 1 + 1 + 1 = A at *
  have hA' : w.heap.size + 3 ≤ A := by omega
  clear hA
  obtain ⟨_, y0, y1, y2, y3, y4, y5, y6⟩ := hX1.x2
  go_wp2_with fail
  refine (learn_any _ _ t2 k _ st2 _ hE1).mono ?_
  rintro e w2 ⟨rfl, hE2, hK2⟩
  rw [HA.out, HKK.out] at hE2
  have hX2 := hX1.kept hK2 hA'
  clear hX1 hE1 hK2 y0 y1 y2 y3 y4 y5 y6
  obtain ⟨_, y0, y1, y2, y3, y4, y5, y6⟩ := hX2.x2
  obtain ⟨_, z0, z1, z2, z3, z4, z5, z6⟩ := hX2.x0
  go_wp2_with fail
  refine (learn_any _ ek _ k s0 st2 _ (Ent.mk' _ ek s0 34 _ rfl)).mono ?_
  rintro e w3 ⟨rfl, hE3, hK3⟩
  have hlt := hE2.lt
  rw [HB.out] at hE3
  have hEa := (hE2.alloc _).kept hK3 (by omega)
  have hX3 := (hX2.alloc _).kept hK3 (by omega)
  have hne : A ≠ w2.heap.size := by omega
  generalize w2.heap.size = B at *
  clear y0 y1 y2 y3 y4 y5 y6 z0 z1 z2 z3 z4 z5 z6 hX2 hK3 hE2
  obtain ⟨ltA, a0, a1, a2, a3, a4, a5, a6, a7, a8, _⟩ := hEa
  obtain ⟨ltB, b0, b1, b2, b3, b4, b5, b6, b7, b8, _⟩ := hE3
  obtain ⟨ltz, z0, z1, z2, z3, z4, z5, z6⟩ := hX3.x0
  obtain ⟨ltx, x0, x1, x2, x3, x4, x5, x6⟩ := hX3.x1
  obtain ⟨lty, y0, y1, y2, y3, y4, y5, y6⟩ := hX3.x2
  go_wp2
  go_quiet (fail)
  go_wp2
  go_ret
  exact ⟨rfl, below_drewN (below_new hX3.below _) _⟩

set_option maxRecDepth 100000 in
set_option maxHeartbeats 2000000 in
theorem later_long (ek k t2 : ByteArray) (s0 st1 st2 : St) (w : World) (h1 : ek.size ≤ 9223372036854775807) (h2 : k.size ≤ 9223372036854775807) (h3 : t2.size ≤ 9223372036854775807)
    (hl : 262144 < ek.size ∨ 262144 < k.size ∨ 262144 < t2.size) :
    Calls Try.prog 4 #[.string ek, .agg #[.int .u64 s0.a, .int .i64 s0.b, .int .i64 s0.c, .int .u32 s0.d, .int .u32 s0.e, .int .u32 s0.f, .int .i64 s0.g], .string k, .agg #[.int .u64 st1.a, .int .i64 st1.b, .int .i64 st1.c, .int .u32 st1.d, .int .u32 st1.e, .int .u32 st1.f, .int .i64 st1.g], .string t2, .agg #[.int .u64 st2.a, .int .i64 st2.b, .int .i64 st2.c, .int .u32 st2.d, .int .u32 st2.e, .int .u32 st2.f, .int .i64 st2.g]] w
      fun e w' => e = .returned (.bool true) ∧ Below w.heap.size w w' := by
  by_cases c0 : 1048576 < ek.size
  · clear hl
    go_enter Try.func4, Try.ntmps4
    go_wp2
    go_ret
    exact ⟨rfl, by repeat (first | exact Below.refl _ _ | apply below_new)⟩
  by_cases c1 : 1048576 < k.size
  · clear hl
    go_enter Try.func4, Try.ntmps4
    go_wp2
    go_ret
    exact ⟨rfl, by repeat (first | exact Below.refl _ _ | apply below_new)⟩
  by_cases c2 : 1048576 < ek.size + k.size
  · clear hl
    go_enter Try.func4, Try.ntmps4
    go_wp2
    go_ret
    exact ⟨rfl, by repeat (first | exact Below.refl _ _ | apply below_new)⟩
  by_cases c3 : 1048576 < t2.size
  · clear hl
    go_enter Try.func4, Try.ntmps4
    go_wp2
    go_ret
    exact ⟨rfl, by repeat (first | exact Below.refl _ _ | apply below_new)⟩
  by_cases c4 : 1048576 < ek.size + k.size + t2.size
  · clear hl
    go_enter Try.func4, Try.ntmps4
    go_wp2
    go_ret
    exact ⟨rfl, by repeat (first | exact Below.refl _ _ | apply below_new)⟩
  by_cases c5 : 262144 < ek.size
  · clear hl
    go_enter Try.func4, Try.ntmps4
    go_wp2
    go_ret
    exact ⟨rfl, by repeat (first | exact Below.refl _ _ | apply below_new)⟩
  by_cases c6 : 262144 < k.size
  · clear hl
    go_enter Try.func4, Try.ntmps4
    go_wp2
    go_ret
    exact ⟨rfl, by repeat (first | exact Below.refl _ _ | apply below_new)⟩
  have c9 : 262144 < t2.size := by omega
  clear hl
  go_enter Try.func4, Try.ntmps4
  go_wp2
  go_ret
  exact ⟨rfl, by repeat (first | exact Below.refl _ _ | apply below_new)⟩

theorem later_any (ek k t2 : ByteArray) (s0 st1 st2 : St) (w : World) (h1 : ek.size ≤ 9223372036854775807) (h2 : k.size ≤ 9223372036854775807) (h3 : t2.size ≤ 9223372036854775807) :
    Calls Try.prog 4 #[.string ek, .agg #[.int .u64 s0.a, .int .i64 s0.b, .int .i64 s0.c, .int .u32 s0.d, .int .u32 s0.e, .int .u32 s0.f, .int .i64 s0.g], .string k, .agg #[.int .u64 st1.a, .int .i64 st1.b, .int .i64 st1.c, .int .u32 st1.d, .int .u32 st1.e, .int .u32 st1.f, .int .i64 st1.g], .string t2, .agg #[.int .u64 st2.a, .int .i64 st2.b, .int .i64 st2.c, .int .u32 st2.d, .int .u32 st2.e, .int .u32 st2.f, .int .i64 st2.g]] w
      fun e w' => e = .returned (.bool true) ∧ Below w.heap.size w w' := by
  by_cases hl : ek.size ≤ 262144 ∧ k.size ≤ 262144 ∧ t2.size ≤ 262144
  · obtain ⟨l1, l2, l3⟩ := hl
    by_cases hk : k.toList = []
    · exact later1 ek k t2 s0 st1 st2 w l1 l2 l3 hk
    by_cases hn : k.toList = (learnKind ek k).toList
    · cases hw : writes t2
      · by_cases hb : st1.b = -1
        · exact later4 ek k t2 s0 st1 st2 w l1 l2 l3 hk hn hw hb
        · exact later5 ek k t2 s0 st1 st2 w l1 l2 l3 hk hn hw hb
      · exact later3 ek k t2 s0 st1 st2 w l1 l2 l3 hk hn hw
    · exact later2 ek k t2 s0 st1 st2 w l1 l2 l3 hk hn
  · exact later_long ek k t2 s0 st1 st2 w h1 h2 h3 (by omega)
end Go.Proofs.Qxb6627893a
