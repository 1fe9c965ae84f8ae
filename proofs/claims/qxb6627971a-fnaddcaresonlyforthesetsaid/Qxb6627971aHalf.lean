/-
  THE SECOND HALF of TwoLevel.Add: what it stores.
-/
import Derived.Test.Qxb6627971aBlock
import Derived.Test.Qxb6627971aShelf
import Derived.Deep.QuietTactic
import Derived.BigQuiet
import Derived.RegionTactic
import Derived.BigRegion
namespace Go.Proofs.Qxb6627971a
open Go.RowKit

theorem lz_is (s z : Int) (w : World) (h0 : 0 ≤ s) (h1 : s ≤ 18446744073709551615) (hz : Hid (64 - (Lib.bitLen s.toNat : Int) = z)) :
    Calls Try.prog 13 #[.int .u64 s] w fun e w' => e = .returned (.int .i64 z) ∧ w = w' := by
  have := hz.out
  subst this
  exact (Try.bits_LeadingZeros64 s w h0 h1).mono fun e w' ⟨a, b⟩ => ⟨a, b.symm⟩

/-- Bit k put into s. -/
def orB (s k : Int) : Int := bits BinOp.or IntKind.u64 s (IntKind.u64.wrap (2 ^ k.toNat))

/-- A new word in the last block: its summary's bit, then the word. -/
def newWord (t : TL) (m : Nat) (k j : Int) : TL := { t with ss := t.ss.set m (orB (t.ss.getD m 0) k), ws := (t.ws ++ [0]).set t.ws.length (orB 0 j) }
/-- One more bit in the last word. -/
def sameWord (t : TL) (n : Nat) (j : Int) : TL := { t with ws := t.ws.set n (orB (t.ws.getD n 0) j) }

/-- What the second half of Add needs, laid once: a summary's bit stored, a word appended, its bit stored. -/
theorem new_steps {w : World} {T : Nat} {t : TL} {g2 c2 : Nat} {v3 v4 v5 : Value} {m : Nat} (h : Tw w T t (.slice (some ⟨g2, 0, none⟩) (m + 1) c2) v3 v4 v5) (l2 : t.ss.length = m + 1) (l5 : t.ws.length ≤ 1000000)
    (k j s : Int) (hs : t.ss.getD m 0 = s) :
    ∃ g5 c5 w2, (Builtin.append_ #[24, 24] 24 #[v5, .slice (some ⟨w.heap.size, 0, none⟩) 1 1]).run Try.prog (((w.setCell ⟨g2, m, none⟩ (.int .u64 (orB s k))).drew).alloc (.cells #[.int .u64 0] 34)) = .ok (.slice (some ⟨g5, 0, none⟩) (t.ws.length + 1) c5) w2 ∧
      g2 ≠ T ∧ g5 ≠ T ∧ w2.cell? ⟨T, 5, none⟩ = some v5 ∧ (∀ j, w2.frozen? ⟨T, j, none⟩ = false) ∧ w2.cell? ⟨g5, t.ws.length, none⟩ = some (.int .u64 0) ∧ (∀ j, w2.frozen? ⟨g5, j, none⟩ = false) ∧
      Tw ((w2.setCell ⟨T, 5, none⟩ (.slice (some ⟨g5, 0, none⟩) (t.ws.length + 1) c5)).setCell ⟨g5, t.ws.length, none⟩ (.int .u64 (orB 0 j))).drew T (newWord t m k j) (.slice (some ⟨g2, 0, none⟩) (m + 1) c2) v3 v4 (.slice (some ⟨g5, 0, none⟩) (t.ws.length + 1) c5) ∧
      Turn w ((w2.setCell ⟨T, 5, none⟩ (.slice (some ⟨g5, 0, none⟩) (t.ws.length + 1) c5)).setCell ⟨g5, t.ws.length, none⟩ (.int .u64 (orB 0 j))).drew (Foot T (.slice (some ⟨g2, 0, none⟩) (m + 1) c2) v3 v4 v5) (Foot T (.slice (some ⟨g2, 0, none⟩) (m + 1) c2) v3 v4 (.slice (some ⟨g5, 0, none⟩) (t.ws.length + 1) c5)) := by
  have tw2 := (h.put2 l2.symm m (orB s k)).draw
  have tu2 : Turn w ((w.setCell ⟨g2, m, none⟩ (.int .u64 (orB s k))).drew) _ _ := ((Turn.refl w (Foot T (.slice (some ⟨g2, 0, none⟩) (m + 1) c2) v3 v4 v5)).set (b := g2) (.inr (.inl rfl)) m (.int .u64 (orB s k))).draw
  obtain ⟨u5, w2, r, k1, f1, ⟨g5, c5, e5⟩, tw3, tu3⟩ := tw2.app5 0 (by show t.ws.length ≤ _; omega)
  subst e5
  have z2 : g2 ≠ T := fun e => h.t2 (by rw [e]; rfl)
  have z5 : g5 ≠ T := fun e => tw3.t5 (by rw [e]; rfl)
  have hl : t.ws.length + 1 = (t.ws ++ [(0 : Int)]).length := by simp
  have ce := tw3.o5.cell hl t.ws.length (by show _ < (t.ws ++ [(0 : Int)]).length; simp)
  have cf := tw3.o5.free hl
  rw [World.cell?_setCell_other _ _ _ _ (ne_block (Ne.symm z5))] at ce
  have hz : (t.ws ++ [(0 : Int)]).getD t.ws.length 0 = 0 := by simp
  rw [show (TL.ws { base := t.base, gaps := t.gaps, ss := t.ss.set m (orB s k), ns := t.ns, fs := t.fs, ws := t.ws ++ [(0 : Int)] }) = t.ws ++ [(0 : Int)] from rfl, hz] at ce
  refine ⟨g5, c5, w2, ?_, z2, z5, ?_, f1, ce, fun j => ?_, ?_, ?_⟩
  · simpa using r
  · rw [k1 5]
    have := tw2.c5
    exact this
  · have := cf j; rw [World.frozen?_setCell] at this; exact this
  · have := (tw3.put5 hl t.ws.length (orB 0 j)).draw
    subst hs
    exact this
  · exact ((tu2.trans tu3).set (b := g5) (.inr (.inr (.inr (.inr rfl)))) _ _).draw
end Go.Proofs.Qxb6627971a
