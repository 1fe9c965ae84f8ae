/-
  ONE ELEMENT APPENDED to a slice that the call itself owns: what comes of it, AND WHERE IT LIES: in the row where it lay, or in a new one.
-/
import Derived.WalkKit
import Derived.WalkSmall
namespace Go.Proofs.Qxb6627971a
open Go.RowKit

theorem app1 {P : Program} (w : World) (t ty e : TypeId) (i : TypeInfo) (z : Value) (bytes : Nat) (ht : P.underlying t = some (.slice e)) (hi : P.info? e = some i) (hz : i.zero = some z)
    (hsize : i.size = 1) (hby : i.bytes = bytes) (hzs : z.cells.size = 1)
    (v : Value) (n : Nat) (xs : List Value) (hown : w.ownsRow 0 e 1 v n xs) (x : Value) (h1 : x.oneCell' = true)
    (h63 : n + 1 ≤ maxLen) (hbytes : (n + 1) * bytes ≤ 140737488355328) :
    ∃ v' w', (Builtin.append_ #[t, t] ty #[v, .slice (some ⟨w.heap.size, 0, none⟩) 1 1]).run P (w.alloc (.cells #[x] e)) = .ok v' w' ∧ w'.ownsRow 0 e 1 v' (n + 1) (xs ++ [x]) ∧ (w.alloc (.cells #[x] e)).grownBy w' v.ownBlock ∧
      (∃ g cap, v' = .slice (some ⟨g, 0, none⟩) (n + 1) cap ∧ (v.ownBlock = some g ∨ w.heap.size < g)) := by
  have hn : ∀ j u, [x][j]? = some u → (w.alloc (.cells #[x] e)).cell? ((⟨w.heap.size, 0, none⟩ : Addr).add j) = some u := fun j u hj => by
    match j, hj with
    | 0, hj =>
      simp at hj; subst hj
      exact World.cell?_alloc_at _ _ _ _ rfl
  have hone : ∀ u ∈ [x], u.oneCell' = true := fun u hu => by simp at hu; subst hu; exact h1
  obtain ⟨v', w', hr, ho, hg, hnil⟩ := run_append_own (P := P) (w.alloc (.cells #[x] e)) 0 t ty e i z 1 bytes ht hi hz hsize hby hzs (by decide) v n xs (hown.alloc _) ⟨w.heap.size, 0, none⟩ 1 1 [x] (by simp) hn hone h63 hbytes (Nat.zero_le _)
  refine ⟨v', w', hr, ho, hg, ?_⟩
  have h63' : n + 1 ≤ 9223372036854775807 := by simp only [maxLen] at h63; omega
  rcases (hown.alloc (.cells #[x] e)).2 with ⟨rfl, rfl⟩ | ⟨g, cap, cur, rfl, _, hgg, hnc, hcm, hcs, htake⟩
  · have hx : xs = [] := List.eq_nil_of_length_eq_zero (by simpa using hown.1)
    subst hx
    have hr' := run_append_nil (P := P) (w.alloc (.cells #[x] e)) t ty e i z ht hi hz ⟨w.heap.size, 0, none⟩ 1 1 [x] (by simp [hsize]) hn (by omega) (by omega) (by subst hby; omega)
    have hv := hr.symm.trans hr'
    simp only [Result.ok.injEq] at hv
    exact ⟨_, _, hv.1, .inr (by simp)⟩
  · by_cases hroom : n + 1 ≤ cap
    · have hr' := run_append_room (P := P) (w.alloc (.cells #[x] e)) t ty e i ht hi g n cap cur hgg ⟨w.heap.size, 0, none⟩ 1 1 [x] (by simp [hsize]) hn hone hroom (by rw [hsize, hcs]; simp; omega)
      have hv := hr.symm.trans hr'
      simp only [Result.ok.injEq] at hv
      exact ⟨_, _, hv.1, .inl rfl⟩
    · have holds : ∀ j u, xs[j]? = some u → (w.alloc (.cells #[x] e)).cell? ((⟨g, 0, none⟩ : Addr).add j) = some u := (hown.alloc (.cells #[x] e)).cells (g := g) rfl
      have hr' := run_append_grow (P := P) (w.alloc (.cells #[x] e)) t ty e i z ht hi hz ⟨g, 0, none⟩ n cap xs (by rw [hsize]; exact hown.1) holds ⟨w.heap.size, 0, none⟩ 1 1 [x] (by simp [hsize]) hn (by omega) (by omega) (growslice_fits (by omega) (by subst hby; exact hbytes))
      have hv := hr.symm.trans hr'
      simp only [Result.ok.injEq] at hv
      exact ⟨_, _, hv.1, .inr (by simp)⟩
end Go.Proofs.Qxb6627971a
