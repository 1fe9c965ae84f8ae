/-
  TwoLevel.Add (7), as a step on the list of words.
-/
import Derived.Test.Qxb6627971aSet
import Derived.Test.Qxb6627971aAddOld
import Derived.Test.Qxb6627971aAddFar
namespace Go.Proofs.Qxb6627971a
open Go.RowKit

/-- An integer more in a list of words. -/
def addW (p : List (Int × Int)) (x : Int) : List (Int × Int) :=
  match p.getLast? with
  | some q => if q.1 = x / 64 then p.dropLast ++ [(q.1, orB q.2 (x % 64))] else p ++ [(x / 64, orB 0 (x % 64))]
  | none => p ++ [(x / 64, orB 0 (x % 64))]

/-- A list of words as it comes about: what its TwoLevel is, how long, within which bounds. -/
structure Words (p : List (Int × Int)) : Prop where
  iv : Iv (ofWords p) (p.map (·.1))
  len : p.length ≤ 65536
  hi : ∀ q ∈ p, 0 ≤ q.1 ∧ q.1 ≤ 33554431

theorem snoc_cases (p : List (Int × Int)) : p = [] ∨ ∃ r q, p = r ++ [q] := by
  rcases List.eq_nil_or_concat p with h | ⟨r, q, h⟩
  · exact .inl h
  · exact .inr ⟨r, q, by rw [h]; simp⟩
theorem addW_nil (x : Int) : addW [] x = [(x / 64, orB 0 (x % 64))] := rfl
theorem addW_same (r : List (Int × Int)) (q : Int × Int) (x : Int) (h : q.1 = x / 64) : addW (r ++ [q]) x = r ++ [(q.1, orB q.2 (x % 64))] := by
  simp [addW, h]
theorem addW_new (r : List (Int × Int)) (q : Int × Int) (x : Int) (h : q.1 ≠ x / 64) : addW (r ++ [q]) x = r ++ [q] ++ [(x / 64, orB 0 (x % 64))] := by
  simp [addW, h]

theorem getD_last {l : List Int} {a : List Int} {s : Int} (h : l = a ++ [s]) : l.getD (l.length - 1) 0 = s := by
  subst h; exact get_snoc _ _ _ (by simp)

theorem add_nil (T : Nat) (v2 v3 v4 v5 : Value) (x : Int) (w : World) (h : Tw w T (ofWords []) v2 v3 v4 v5) (hx0 : 0 ≤ x) (hx1 : x ≤ 2147483647) :
    Calls Try.prog 7 #[.pointer (some ⟨T, 0, none⟩), .int .i64 x] w fun e w' => e = .returned (.tuple #[]) ∧
      ∃ u2 u3 u4 u5, Tw w' T (ofWords (addW [] x)) u2 u3 u4 u5 ∧ Turn w w' (Foot T v2 v3 v4 v5) (Foot T u2 u3 u4 u5) := by
  obtain ⟨ad3, c3, rfl⟩ : ∃ (ad3 : Option Addr) (c3 : Nat), v3 = .slice ad3 0 c3 := by
    rcases h.o3.shape with ⟨hv, _⟩ | ⟨g, cap, hv, _⟩
    · exact ⟨none, 0, hv⟩
    · exact ⟨_, cap, hv⟩
  refine (addA T (ofWords []) ad3 c3 v2 v4 v5 x w 0 h rfl rfl rfl (Nat.zero_le _) rfl hx0 hx1).mono ?_
  rintro e w' ⟨rfl, u2, u3, u4, u5, hT, hU⟩
  refine ⟨rfl, u2, u3, u4, u5, ?_, hU⟩
  rw [newWord_eq] at hT
  have e : withW (bitT (addBlk { ofWords [] with base := x / 4096 } (x / 4096)) 0 (x / 64 % 64)) (orB 0 (x % 64)) = ofWords (addW [] x) := by
    rw [addW_nil, show [(x / 64, orB 0 (x % 64))] = ([] : List (Int × Int)) ++ [(x / 64, orB 0 (x % 64))] from rfl, ofWords_snoc]
    rw [show openW (ofWords []) (x / 64 / 64) (x / 64 % 64) = bitT (addBlk { ofWords [] with base := x / 64 / 64 } (x / 64 / 64)) 0 (x / 64 % 64) from if_pos rfl, show x / 64 / 64 = x / 4096 from by omega]
  rw [← e]; exact hT

/-- The last summary's length in bits. -/
theorem Iv.top {t : TL} {wi : List Int} (h : Iv t wi) (hw : wi ≠ []) : 0 ≤ t.ss.getD (t.ss.length - 1) 0 ∧ t.ss.getD (t.ss.length - 1) 0 ≤ 18446744073709551615 ∧ (Lib.bitLen (t.ss.getD (t.ss.length - 1) 0).toNat : Int) = wi.getLastD 0 % 64 + 1 := by
  obtain ⟨a, b, s, e1, e2, e3, e4, e5⟩ := h.ls hw
  have hs := h.rg s (by rw [e2]; simp)
  rw [getD_last e2]
  refine ⟨hs.1, by omega, ?_⟩
  rw [bitLen_top s.toNat (wi.getLastD 0 % 64).toNat (by omega) e4 e5]
  omega

theorem map_last (r : List (Int × Int)) (q : Int × Int) : ((r ++ [q]).map (·.1)).getLastD 0 = q.1 := by simp

theorem add_same (T : Nat) (v2 v3 v4 v5 : Value) (r : List (Int × Int)) (q : Int × Int) (x : Int) (w : World) (hp : Words (r ++ [q])) (h : Tw w T (ofWords (r ++ [q])) v2 v3 v4 v5) (hx0 : 0 ≤ x) (hx1 : x ≤ 2147483647) (hq : q.1 = x / 64) :
    Calls Try.prog 7 #[.pointer (some ⟨T, 0, none⟩), .int .i64 x] w fun e w' => e = .returned (.tuple #[]) ∧
      ∃ u2 u3 u4 u5, Tw w' T (ofWords (addW (r ++ [q]) x)) u2 u3 u4 u5 ∧ Turn w w' (Foot T v2 v3 v4 v5) (Foot T u2 u3 u4 u5) := by
  have hne : (r ++ [q]).map (·.1) ≠ [] := by simp
  obtain ⟨hL, hlast⟩ := hp.iv.last hne
  obtain ⟨t0, t1, t2⟩ := hp.iv.top hne
  rw [map_last] at hlast t2
  have l5 := hp.iv.l5
  have l2 := hp.iv.l2
  have hle := hp.iv.le
  have hpl := hp.len
  have hws : (ofWords (r ++ [q])).ws = (openW (ofWords r) (q.1 / 64) (q.1 % 64)).ws ++ [q.2] := by rw [ofWords_snoc]; rfl
  have hX : ofWords (addW (r ++ [q]) x) = sameWord (ofWords (r ++ [q])) ((ofWords (r ++ [q])).ws.length - 1) (x % 64) := by
    rw [addW_same r q x hq, ofWords_snoc, ofWords_snoc]
    unfold sameWord withW
    simp
  rw [hX]
  simp only [List.length_map, List.length_append, List.length_singleton] at l5 hle hpl
  obtain ⟨m, hm⟩ : ∃ m, (ofWords (r ++ [q])).ns.length = m + 1 := ⟨(ofWords (r ++ [q])).ns.length - 1, by omega⟩
  obtain ⟨g2, c2, rfl, _⟩ := h.o2.there (by omega)
  obtain ⟨g3, c3, rfl, _⟩ := h.o3.there (by omega)
  obtain ⟨g5, c5, rfl, _⟩ := h.o5.there (by omega)
  generalize ofWords (r ++ [q]) = t at *
  rw [← l2, hm] at t0 t1 t2
  rw [hm] at hlast
  simp only [Nat.add_sub_cancel] at t0 t1 t2 hlast
  rw [← l2, hm, l5] at h ⊢
  simp only [Nat.add_sub_cancel]
  refine (addF T t g2 c2 g3 c3 g5 c5 v4 m r.length x (t.ss.getD m 0) (63 - q.1 % 64) w h (by omega) hm l5 (by omega) (by omega) hx0 hx1 (by rw [hlast, hq]; omega) rfl t0 t1 (by show _ = _; rw [t2]; omega) (by rw [hq]; omega)).mono ?_
  rintro e w' ⟨rfl, hT, hU⟩
  exact ⟨rfl, _, _, _, _, hT, hU⟩

theorem add_new (T : Nat) (v2 v3 v4 v5 : Value) (r : List (Int × Int)) (q : Int × Int) (x : Int) (w : World) (hp : Words (r ++ [q])) (h : Tw w T (ofWords (r ++ [q])) v2 v3 v4 v5) (hx0 : 0 ≤ x) (hx1 : x ≤ 2147483647) (hq : q.1 < x / 64) :
    Calls Try.prog 7 #[.pointer (some ⟨T, 0, none⟩), .int .i64 x] w fun e w' => e = .returned (.tuple #[]) ∧
      ∃ u2 u3 u4 u5, Tw w' T (ofWords (addW (r ++ [q]) x)) u2 u3 u4 u5 ∧ Turn w w' (Foot T v2 v3 v4 v5) (Foot T u2 u3 u4 u5) := by
  have hne : (r ++ [q]).map (·.1) ≠ [] := by simp
  obtain ⟨hL, hlast⟩ := hp.iv.last hne
  obtain ⟨t0, t1, t2⟩ := hp.iv.top hne
  rw [map_last] at hlast t2
  have hqr := hp.hi q (by simp)
  have l5 := hp.iv.l5
  have l2 := hp.iv.l2
  have hle := hp.iv.le
  have hpl := hp.len
  have hb0 := hp.iv.b0
  have lf : (ofWords (r ++ [q])).fs.length = (ofWords (r ++ [q])).ss.length := by rw [hp.iv.fs]; exact firstsOf_length _ _
  have hbase : (ofWords (r ++ [q])).base ≤ 1048576 := by
    obtain ⟨s, r1, r2, e1, e2, e3⟩ := hp.iv.hd hne
    have := (hp.iv.nb (ofWords (r ++ [q])).base (by rw [e3]; simp)).2
    rw [map_last] at this
    omega
  have hX : ofWords (addW (r ++ [q]) x) = withW (openW (ofWords (r ++ [q])) (x / 64 / 64) (x / 64 % 64)) (orB 0 (x % 64)) := by
    rw [addW_new r q x (by omega), ofWords_snoc]
  rw [hX, show x / 64 / 64 = x / 4096 from by omega]
  simp only [List.length_map, List.length_append, List.length_singleton] at l5 hle hpl
  obtain ⟨m, hm⟩ : ∃ m, (ofWords (r ++ [q])).ns.length = m + 1 := ⟨(ofWords (r ++ [q])).ns.length - 1, by omega⟩
  obtain ⟨g2, c2, rfl, _, k2, _⟩ := h.o2.there (by omega)
  obtain ⟨g3, c3, rfl, _, k3, _⟩ := h.o3.there (by omega)
  obtain ⟨g4, c4, rfl, _, k4, _⟩ := h.o4.there (by omega)
  generalize ofWords (r ++ [q]) = t at *
  clear hX
  rw [← l2, hm] at t0 t1 t2
  rw [hm] at hlast
  simp only [Nat.add_sub_cancel] at t0 t1 t2 hlast
  rw [lf, ← l2, hm] at h ⊢
  rw [← l2, hm] at k2
  rw [hm] at k3
  rw [lf, ← l2, hm] at k4
  by_cases hn : q.1 / 64 < x / 4096
  · by_cases hg : t.gaps = true
    · refine (addD T t _ _ v5 g3 c3 m x (q.1 / 64) w (r.length + 1) h (by omega) hm (by omega) (by omega) l5 (by omega) hx0 hx1 hg hlast (by omega) hn).mono ?_
      rintro e w' ⟨rfl, u2, u3, u4, u5, hT, hU⟩
      refine ⟨rfl, u2, u3, u4, u5, ?_, hU⟩
      rw [newWord_eq] at hT
      have e : openW t (x / 4096) (x / 64 % 64) = bitT (addBlk t (x / 4096)) (m + 1) (x / 64 % 64) := by
        unfold openW
        rw [if_neg (by omega), hm, Nat.add_sub_cancel, hlast, if_pos hn, if_pos hg]
      rw [e]; exact hT
    · have hg' : t.gaps = false := by simpa using hg
      by_cases hnear : x / 4096 - t.base < 2 * ((r.length + 1 : Nat) + 1 : Int)
      · refine (addB T t _ _ v5 g3 c3 m (x / 4096 - q.1 / 64 - 1).toNat x (q.1 / 64) w (r.length + 1) h (by omega) hm (by omega) (by omega) l5 (by omega) hx0 hx1 hg' hlast (by omega) (by omega) t.base rfl hb0 hbase hnear).mono ?_
        rintro e w' ⟨rfl, u2, u3, u4, u5, hT, hU⟩
        refine ⟨rfl, u2, u3, u4, u5, ?_, hU⟩
        rw [newWord_eq] at hT
        have e : openW t (x / 4096) (x / 64 % 64) = bitT (addBlk (fillT t (q.1 / 64 + 1) (x / 4096 - q.1 / 64 - 1).toNat) (x / 4096)) (m + 1 + (x / 4096 - q.1 / 64 - 1).toNat) (x / 64 % 64) := by
          unfold openW
          rw [if_neg (by omega), hm, Nat.add_sub_cancel, hlast, if_pos hn, if_neg hg, l5, if_pos hnear]
        rw [e]; exact hT
      · refine (addC T t v5 g2 c2 g3 c3 g4 c4 m (cnt t.ss (m + 1)) x (q.1 / 64) w (r.length + 1) h (by omega) hm (by omega) (by omega) l5 (by omega) hx0 hx1 k2 k3 k4 rfl hg' hlast (by omega) hn t.base rfl hb0 hbase hnear).mono ?_
        rintro e w' ⟨rfl, u2, u3, u4, u5, hT, hU⟩
        refine ⟨rfl, u2, u3, u4, u5, ?_, hU⟩
        rw [newWord_eq] at hT
        have e : openW t (x / 4096) (x / 64 % 64) = bitT (addBlk (dropE t) (x / 4096)) (cnt t.ss (m + 1)) (x / 64 % 64) := by
          unfold openW
          rw [if_neg (by omega), ← l2, hm, Nat.add_sub_cancel, hlast, if_pos hn, if_neg hg, l5, if_neg hnear]
        rw [e]; exact hT
  · have hnn : q.1 / 64 = x / 4096 := by omega
    refine (addE T t g2 c2 g3 c3 _ v5 m x (t.ss.getD m 0) (63 - q.1 % 64) w h (by omega) hm (by omega) (by omega) hx0 hx1 (by rw [hlast, hnn]) rfl t0 t1 (by show _ = _; rw [t2]; omega) (by omega) (by omega) (by omega)).mono ?_
    rintro e w' ⟨rfl, u5, hT, hU⟩
    refine ⟨rfl, _, _, _, u5, ?_, hU⟩
    rw [newWord_eq] at hT
    have e : openW t (x / 4096) (x / 64 % 64) = bitT t m (x / 64 % 64) := by
      unfold openW
      rw [if_neg (by omega), hm, Nat.add_sub_cancel, hlast, if_neg hn]
    rw [e]; exact hT

/-- Add, on a list of words. -/
theorem add_any (T : Nat) (v2 v3 v4 v5 : Value) (p : List (Int × Int)) (x : Int) (w : World) (hp : Words p) (h : Tw w T (ofWords p) v2 v3 v4 v5) (hx0 : 0 ≤ x) (hx1 : x ≤ 2147483647) (hq : ∀ q, p.getLast? = some q → q.1 ≤ x / 64) :
    Calls Try.prog 7 #[.pointer (some ⟨T, 0, none⟩), .int .i64 x] w fun e w' => e = .returned (.tuple #[]) ∧
      ∃ u2 u3 u4 u5, Tw w' T (ofWords (addW p x)) u2 u3 u4 u5 ∧ Turn w w' (Foot T v2 v3 v4 v5) (Foot T u2 u3 u4 u5) := by
  rcases snoc_cases p with rfl | ⟨r, q, rfl⟩
  · exact add_nil T v2 v3 v4 v5 x w h hx0 hx1
  · have := hq q (by simp)
    by_cases e : q.1 = x / 64
    · exact add_same T v2 v3 v4 v5 r q x w hp h hx0 hx1 e
    · exact add_new T v2 v3 v4 v5 r q x w hp h hx0 hx1 (by omega)
end Go.Proofs.Qxb6627971a
