/-
  The notes as the second law reads them.
-/
import Derived.Test.Qxb6601102aCount
namespace Go.Proofs.Qxb6601102a
open Go.RowKit

theorem mem_dl {D : Dat} {K : Nat} {p : Nat × Nat} (h : p ∈ dl D K) : p.1 < K ∧ p.2 < D.nm p.1 := by
  unfold dl at h
  obtain ⟨k, h1, h2⟩ := List.mem_flatMap.1 h
  unfold dr at h2
  obtain ⟨x, h3, rfl⟩ := List.mem_map.1 h2
  exact ⟨List.mem_range.1 h1, List.mem_range.1 (List.mem_filter.1 h3).1⟩

theorem noteCells_get (D : Dat) : ∀ (l : List (Nat × Nat)) (j : Nat) (h : j < l.length), (noteCells D l)[j * 3]? = some (.string (D.tf l[j].1)) ∧ (noteCells D l)[j * 3 + 1]? = some (.string dropped) ∧ (noteCells D l)[j * 3 + 2]? = some (.string (D.slug (D.Z l[j].1 l[j].2).toNat))
  | p :: l, 0, _ => ⟨rfl, rfl, rfl⟩
  | p :: l, j + 1, h => by
    have ih := noteCells_get D l j (by simpa using h)
    have e : noteCells D (p :: l) = .string (D.tf p.1) :: .string dropped :: .string (D.slug (D.Z p.1 p.2).toNat) :: noteCells D l := rfl
    rw [e]
    have e1 : (j + 1) * 3 = j * 3 + 1 + 1 + 1 := by omega
    rw [e1]
    exact ih

theorem sizeOf43 (w : World) : (sizeOf 43).run Try.prog w = .ok 3 w := by kernel_rfl

theorem notes_at {w : World} {B : Nat} {D : Dat} {s : Option Addr} {c : Nat} {l : List (Nat × Nat)} (h : w.ownsRow B 43 3 (.slice s l.length c) l.length (noteCells D l)) (j : Nat) (hj : j < l.length) :
    ∃ g, (∀ w', (Instr.indexAt 36 (.slice s l.length c) (.int .i64 j)).run Try.prog w' = .ok (.pointer (some ⟨g, j * 3, none⟩)) w') ∧ w.cell? ⟨g, j * 3, none⟩ = some (.string (D.tf l[j].1)) ∧ w.cell? ⟨g, j * 3 + 1, none⟩ = some (.string dropped) ∧ w.cell? ⟨g, j * 3 + 2, none⟩ = some (.string (D.slug (D.Z l[j].1 l[j].2).toNat)) := by
  obtain ⟨g0, g1, g2⟩ := noteCells_get D l j hj
  rcases h.2 with ⟨_, h0⟩ | ⟨g, cap, cur, hv, _, hg, h1, _, hcs, htake⟩
  · omega
  · have hs : s = some ⟨g, 0, none⟩ := by cases hv; rfl
    subst hs
    have hc : ∀ x v, (noteCells D l)[x]? = some v → w.cell? ⟨g, x, none⟩ = some v := by
      intro x v hx
      have := h.cells (g := g) rfl x v hx
      rw [Addr.add_lit, Nat.zero_add] at this
      exact this
    refine ⟨g, fun w' => ?_, hc _ _ g0, hc _ _ g1, hc _ _ g2⟩
    have hel : Try.prog.elem 36 = 43 := by simp [Program.elem, Try.underlying36]
    rw [run_indexAt_slice (P := Try.prog) w' 36 ⟨g, 0, none⟩ l.length c .i64 j (by rw [hel]; exact Try.underlying36)]
    rw [if_pos ⟨by omega, by omega⟩, hel, sizeOf43]
    simp [Result.andThen, Addr.add]
    omega
end Go.Proofs.Qxb6601102a
