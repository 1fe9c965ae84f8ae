/-
  THE WALKS of Entry.take (10), Entry.See (11), Entry.Learn (8).
-/
import Derived.Test.Qxb6627893aState
import Derived.RegionTactic
import Derived.BigRegion
namespace Go.Proofs.Qxb6627893a
open Go.RowKit

def takeStat (ek : ByteArray) (s : St) (k : ByteArray) (st : St) : St := if k.toList = (learnKind ek k).toList then st else s

set_option maxHeartbeats 400000 in
theorem take_any (E : Nat) (ek k : ByteArray) (s st : St) (w : World) (hE : Ent w E ek s) (hk : k.toList ≠ []) :
    Calls Try.prog 10 #[.pointer (some ⟨E, 0, none⟩), .string k, .agg #[.int .u64 st.a, .int .i64 st.b, .int .i64 st.c, .int .u32 st.d, .int .u32 st.e, .int .u32 st.f, .int .i64 st.g]] w
      fun en w1 => en = .returned (.tuple #[]) ∧ Ent w1 E (learnKind ek k) (takeStat ek s k st) ∧ Keep E w w1 := by
  obtain ⟨lt, c0, c1, c2, c3, c4, c5, c6, c7, c8, fr⟩ := id hE
  by_cases h1 : ek.toList = []
  · by_cases h2 : k.toList = [100, 105, 114]
    · have e1 : learnKind ek k = ek := if_neg (fun x => x.2.2 h2)
      have e2 : takeStat ek s k st = s := by unfold takeStat; rw [e1, h1]; exact if_neg hk
      rw [e1, e2]
      clear e1 e2
      have h3 : k.toList.isEmpty = false := by rw [h2]; rfl
      go_enter Try.func10, Try.ntmps10
      go_wp2
      go_end0
      exact ⟨rfl, hE.alloc _, (Keep.refl _ _).alloc _⟩
    · have e1 : learnKind ek k = k := if_pos ⟨h1, hk, h2⟩
      have e2 : takeStat ek s k st = st := by unfold takeStat; rw [e1]; exact if_pos rfl
      rw [e1, e2]
      clear e1 e2
      have h3 : k.toList.isEmpty = false := by simpa using hk
      have h4 : (k.toList == [100, 105, 114]) = false := by simpa using h2
      go_enter Try.func10, Try.ntmps10
      go_wp2
      go_end0
      exact ⟨rfl, ((hE.kind k).stat st).alloc _, (((Keep.refl _ _).set _ _).stat st).alloc _⟩
  · by_cases h2 : k.toList = ek.toList
    · have e1 : learnKind ek k = ek := if_neg (fun x => h1 x.1)
      have e2 : takeStat ek s k st = st := by unfold takeStat; rw [e1]; exact if_pos h2
      rw [e1, e2]
      clear e1 e2
      have h4 : (k.toList == ek.toList) = true := by simpa using h2
      have h5 : ek.toList.isEmpty = false := by simpa using h1
      clear h2
      go_enter Try.func10, Try.ntmps10
      go_wp2
      go_end0
      exact ⟨rfl, (hE.stat st).alloc _, ((Keep.refl _ _).stat st).alloc _⟩
    · have e1 : learnKind ek k = ek := if_neg (fun x => h1 x.1)
      have e2 : takeStat ek s k st = s := by unfold takeStat; rw [e1]; exact if_neg h2
      rw [e1, e2]
      clear e1 e2
      have h4 : (k.toList == ek.toList) = false := by simpa using h2
      have h5 : ek.toList.isEmpty = false := by simpa using h1
      go_enter Try.func10, Try.ntmps10
      go_wp2
      go_end0
      exact ⟨rfl, hE.alloc _, (Keep.refl _ _).alloc _⟩

set_option maxHeartbeats 1000000 in
theorem see_any (E : Nat) (ek k : ByteArray) (s st : St) (w : World) (hE : Ent w E ek s) (hk : k.toList ≠ []) :
    Calls Try.prog 11 #[.pointer (some ⟨E, 0, none⟩), .string k, .agg #[.int .u64 st.a, .int .i64 st.b, .int .i64 st.c, .int .u32 st.d, .int .u32 st.e, .int .u32 st.f, .int .i64 st.g]] w
      fun en w1 => en = .returned (.tuple #[]) ∧ Ent w1 E (learnKind ek k) (takeStat ek s k { st with b := s.b, c := s.c }) ∧ Keep E w w1 := by
  obtain ⟨lt, c0, c1, c2, c3, c4, c5, c6, c7, c8, fr⟩ := id hE
  by_cases h2 : k.toList = ek.toList
  · have h4 : (k.toList == ek.toList) = true := by simpa using h2
    clear h2
    go_enter Try.func11, Try.ntmps11
    go_wp2
    go_region
    go_wp2_with fail
    refine (take_any E ek k s { st with b := s.b, c := s.c } _ ((hE.alloc _).draw) hk).mono ?_
    rintro e w1 ⟨rfl, hE1, hK1⟩
    go_wp2
    go_end0
    exact ⟨rfl, hE1, ((Keep.refl _ _).alloc _).draw.trans hK1⟩
  · have h4 : (k.toList == ek.toList) = false := by simpa using h2
    by_cases h3 : ek.toList = []
    · have h5 : ek.toList.isEmpty = true := by simpa using h3
      have h6 : k.toList.isEmpty = false := by simpa using hk
      clear h2
      go_enter Try.func11, Try.ntmps11
      go_wp2
      go_region
      go_wp2_with fail
      refine (take_any E ek k s { st with b := s.b, c := s.c } _ ((hE.alloc _).draw) hk).mono ?_
      rintro e w1 ⟨rfl, hE1, hK1⟩
      go_wp2
      go_end0
      exact ⟨rfl, hE1, ((Keep.refl _ _).alloc _).draw.trans hK1⟩
    · have h5 : ek.toList.isEmpty = false := by simpa using h3
      have e1 : learnKind ek k = ek := if_neg (fun x => h3 x.1)
      have e2 : takeStat ek s k st = s := by unfold takeStat; rw [e1]; exact if_neg h2
      have e3 : takeStat ek s k { st with b := s.b, c := s.c } = s := by unfold takeStat; rw [e1]; exact if_neg h2
      have E2 : Hid (takeStat ek s k st = s) := e2
      rw [e3]
      clear e1 e2 e3
      go_enter Try.func11, Try.ntmps11
      go_wp2_with fail
      refine (take_any E ek k s st _ (hE.alloc _) hk).mono ?_
      rintro e w1 ⟨rfl, hE1, hK1⟩
      rw [E2.out] at hE1
      go_wp2
      go_end0
      exact ⟨rfl, hE1, ((Keep.refl _ _).alloc _).trans hK1⟩

/-- What Learn does to the Stat, by what take and See do. -/
theorem learnStat_take {ek : ByteArray} {s : St} {t k : ByteArray} {st : St} (hk : k.toList ≠ []) (h : writes t = true ∨ s.b = -1) : learnStat ek s t k st = takeStat ek s k st := by
  unfold learnStat takeStat
  rw [if_neg hk, if_pos h]
theorem learnStat_see {ek : ByteArray} {s : St} {t k : ByteArray} {st : St} (hk : k.toList ≠ []) (h : ¬ (writes t = true ∨ s.b = -1)) : learnStat ek s t k st = takeStat ek s k { st with b := s.b, c := s.c } := by
  unfold learnStat takeStat
  rw [if_neg hk, if_neg h]

set_option maxHeartbeats 1000000 in
theorem learn_any (E : Nat) (ek t k : ByteArray) (s st : St) (w : World) (hE : Ent w E ek s) :
    Calls Try.prog 8 #[.pointer (some ⟨E, 0, none⟩), .string t, .string k, .agg #[.int .u64 st.a, .int .i64 st.b, .int .i64 st.c, .int .u32 st.d, .int .u32 st.e, .int .u32 st.f, .int .i64 st.g]] w
      fun en w1 => en = .returned (.tuple #[]) ∧ Ent w1 E (learnKind ek k) (learnStat ek s t k st) ∧ Keep E w w1 := by
  obtain ⟨lt, c0, c1, c2, c3, c4, c5, c6, c7, c8, fr⟩ := id hE
  by_cases hk : k.toList = []
  · have e1 : learnKind ek k = ek := if_neg (fun x => x.2.1 hk)
    have h6 : k.toList.isEmpty = true := by simpa using hk
    cases hw : writes t
    · have e2 : learnStat ek s t k st = s := by rw [learnStat_none hk]; exact if_neg (by simp [hw])
      rw [e1, e2]
      clear e1 e2
      have h7 : (t.toList == [119, 114, 105, 116, 101]) = false := hw
      clear hw
      go_enter Try.func8, Try.ntmps8
      go_wp2
      go_end0
      exact ⟨rfl, hE.alloc _, (Keep.refl _ _).alloc _⟩
    · have e2 : learnStat ek s t k st = { s with b := -1 } := by rw [learnStat_none hk]; exact if_pos hw
      rw [e1, e2]
      clear e1 e2
      have h7 : (t.toList == [119, 114, 105, 116, 101]) = true := hw
      clear hw
      go_enter Try.func8, Try.ntmps8
      go_wp2
      go_end0
      exact ⟨rfl, (hE.setB (-1)).alloc _, ((Keep.refl _ _).set _ _).alloc _⟩
  · have h6 : k.toList.isEmpty = false := by simpa using hk
    have HK : Hid (k.toList ≠ []) := hk
    clear hk
    cases hw : writes t
    · have h7 : (t.toList == [119, 114, 105, 116, 101]) = false := hw
      by_cases hb : s.b = -1
      · rw [learnStat_take HK.out (.inr hb)]
        have h8 : (s.b == -1) = true := by simpa using hb
        clear hw hb
        go_enter Try.func8, Try.ntmps8
        go_wp2_with fail
        refine (take_any E ek k s st _ (hE.alloc _) HK.out).mono ?_
        rintro e w1 ⟨rfl, hE1, hK1⟩
        go_wp2
        go_end0
        exact ⟨rfl, hE1, ((Keep.refl _ _).alloc _).trans hK1⟩
      · rw [learnStat_see HK.out (by rw [hw]; simp; exact hb)]
        have h8 : (s.b == -1) = false := by simpa using hb
        clear hw hb
        go_enter Try.func8, Try.ntmps8
        go_wp2_with fail
        refine (see_any E ek k s st _ (hE.alloc _) HK.out).mono ?_
        rintro e w1 ⟨rfl, hE1, hK1⟩
        go_wp2
        go_end0
        exact ⟨rfl, hE1, ((Keep.refl _ _).alloc _).trans hK1⟩
    · rw [learnStat_take HK.out (.inl hw)]
      have h7 : (t.toList == [119, 114, 105, 116, 101]) = true := hw
      clear hw
      go_enter Try.func8, Try.ntmps8
      go_wp2_with fail
      refine (take_any E ek k s st _ (hE.alloc _) HK.out).mono ?_
      rintro e w1 ⟨rfl, hE1, hK1⟩
      go_wp2
      go_end0
      exact ⟨rfl, hE1, ((Keep.refl _ _).alloc _).trans hK1⟩
end Go.Proofs.Qxb6627893a
