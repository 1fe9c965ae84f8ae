/-
  THE WALK of TwoLevel.addBlock (11).
-/
import Derived.Test.Qxb6627971aGrow
import Derived.RegionTactic
import Derived.BigRegion
namespace Go.Proofs.Qxb6627971a
open Go.RowKit
/-- A block behind the others, with no member yet. -/
def addBlk (t : TL) (n : Int) : TL := { t with ns := t.ns ++ [n], ss := t.ss ++ [0], fs := t.fs ++ [(t.ws.length : Int)] }

set_option maxHeartbeats 1000000 in
theorem addBlock_any (T : Nat) (t : TL) (v2 v3 v4 v5 : Value) (n : Int) (w : World) (h : Tw w T t v2 v3 v4 v5) (hn0 : 0 ≤ n) (hn1 : n ≤ 1048576) (l2 : t.ss.length ≤ 1048576) (l3 : t.ns.length ≤ 1048576) (l4 : t.fs.length ≤ 1048576) (l5 : t.ws.length ≤ 1048576) :
    Calls Try.prog 11 #[.pointer (some ⟨T, 0, none⟩), .int .i64 n] w fun e w' => e = .returned (.tuple #[]) ∧ ∃ u2 u3 u4, Tw w' T (addBlk t n) u2 u3 u4 v5 ∧ Turn w w' (Foot T v2 v3 v4 v5) (Foot T u2 u3 u4 v5) := by
  obtain ⟨u3, w1, r1, k1, f1, ⟨g3, cap3, e3⟩, tw1, tu1⟩ := h.app3 n l3
  obtain ⟨u2, w2, r2, k2, f2, ⟨g2, cap2, e2⟩, tw2, tu2⟩ := tw1.app2 0 l2
  obtain ⟨u4, w3, r3, k3, f3, ⟨g4, cap4, e4⟩, tw3, tu3⟩ := tw2.draw.app4 (t.ws.length : Int) l4
  have hfin : Tw (w3.setCell ⟨T, 4, none⟩ u4) T (addBlk t n) u2 u3 u4 v5 := tw3
  have htu := (tu1.trans tu2.draw).trans tu3
  have HF : Hid _ := hfin
  have HT : Hid _ := htu
  clear hfin htu tw3 tu1 tu2 tu3
  have a1 := h.c3
  have a2 := (k1 3).trans h.c3
  have a3 := (k1 2).trans h.c2
  have a4 := (k2 2).trans tw1.c2
  have a5 := (k2 4).trans tw1.c4
  have a6 := (k2 5).trans tw1.c5
  have a7 := (k3 4).trans tw2.c4
  have lt2 : T < w2.heap.size := by have := tw2.lt; simpa using this
  clear k1 k2 k3 tw1 tw2
  subst e3 e2 e4
  obtain ⟨cap5, ad5, h5⟩ : ∃ (cap5 : Nat) (ad5 : Option Addr), v5 = .slice ad5 t.ws.length cap5 := by
    rcases h.o5.shape with ⟨hv, hx⟩ | ⟨g, cap, hv, _⟩
    · exact ⟨0, none, by rw [hv, hx]; rfl⟩
    · exact ⟨cap, _, hv⟩
  subst h5
  simp only [World.size_setCell, World.size_drew] at r2 r3
  have hw : IntKind.i32.wrap (t.ws.length : Int) = t.ws.length := by rw [IntKind.wrap_i32]; omega
  have R1 : Hid _ := r1
  have R2 : Hid _ := r2
  have R3 : Hid _ := r3
  clear r1 r2 r3
  go_enter Try.func11, Try.ntmps11
  go_wp2_with (first | (at_builtin; refine wpList_app rfl (.tmp 8) (.tmp 11) 25 25 rfl rfl v3 _ _ rfl rfl R1.out ?_) | (at_builtin; refine wpList_app rfl (.tmp 19) (.tmp 20) 24 24 rfl rfl v2 _ _ rfl rfl R2.out ?_))
  go_region_law (refine step_app rfl (.tmp 28) (.tmp 35) 25 25 rfl rfl v4 _ _ (by first | rfl | simp [Act.eval, Act.put]) (by first | rfl | simp [Act.eval, Act.put]) R3.out ?_)
  all_goals go_end0
  all_goals exact ⟨rfl, _, _, _, HF.out, HT.out⟩
end Go.Proofs.Qxb6627971a
