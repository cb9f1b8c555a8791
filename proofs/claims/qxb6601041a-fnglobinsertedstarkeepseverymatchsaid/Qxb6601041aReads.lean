/-
  FROM THE READING OF AN ARGUMENT TO THE SLICE AS IT LIES: []rune, []bool.
-/
import Derived.Test.Qxb6601041aViews
import Derived.ProofKit
import Derived.OpenShut
import Derived.ChangeOld
import Derived.Below
import Derived.SliceStrings
import Derived.Deep.Slices
import Derived.Deep.Grids
namespace Go.Proofs.Qxb6601041a
open Go.ChangeShapes Go.WideShapes Go.ChangeAt Go.RowKit Go.Deep
set_option linter.unusedVariables false

theorem cells21 : Try.prog.cellsOf 21 = 1 := by kernel_rfl
theorem cells4 : Try.prog.cellsOf 4 = 1 := by kernel_rfl

theorem plain_addr {w : World} {a : Addr} {v : Value} (h : w.cell? (a.add 0) = some v) : a = ⟨a.block, a.off, none⟩ := by
  obtain ⟨b, off, spot⟩ := a
  have hspot : spot = none := by simpa [Addr.add] using World.cell?_spot h
  subst hspot
  rfl
theorem cell_at {w : World} {b off i : Nat} {v : Value} (h : w.cell? ((⟨b, off, none⟩ : Addr).add i) = some v) : w.cell? ⟨b, off + i, none⟩ = some v := by
  rw [← Go.WideShapes.add_plain]; exact h

theorem has_of {w : World} {a : Addr} {n c : Nat} {V : Nat → Value} (h : ∀ i, i < n → w.cell? (a.add i) = some (V i)) (hn : n ≤ 9223372036854775807) : (⟨some a, n, c, a.block, a.off⟩ : Sl).Has w V :=
  ⟨fun i hi => by
    have e := plain_addr (h 0 (Nat.lt_of_le_of_lt (Nat.zero_le i) hi))
    have hc := h i hi
    rw [e] at hc
    exact ⟨by show some a = _; rw [← e], cell_at hc⟩, hn⟩

theorem bools_of {H : Type} {enc : TypeId × Value → H} {W : World} {a0 : Option Addr} {len0 cap0 : Nat} {d : DataW H} {ps : List MemPlace}
    (h0 : DataW.Trod enc Try.prog W 0 (fun _ => true) true 23 (.slice a0 len0 cap0) d ps) : ∃ (x : Sl) (S : Nat → Bool), x.s = a0 ∧ x.n = len0 ∧ x.c = cap0 ∧ Bools W x S := by
  obtain ⟨fuel, hf⟩ := h0
  rcases open_bools Try.underlying23 Try.underlying4 cells4 hf with ⟨hcs, _⟩ | ⟨a, len, cap, B, hcs, _, hl, hm, _, hx⟩
  · simp [Value.cells] at hcs
    obtain ⟨rfl, rfl, rfl⟩ := hcs
    exact ⟨⟨none, 0, 0, 0, 0⟩, fun _ => false, rfl, rfl, rfl, ⟨fun i hi => absurd hi (Nat.not_lt_zero i), Nat.zero_le _⟩⟩
  · simp [Value.cells] at hcs
    obtain ⟨rfl, rfl, rfl⟩ := hcs
    unfold maxLen at hm
    exact ⟨⟨some a, len0, cap0, a.block, a.off⟩, B, rfl, rfl, rfl, has_of (fun i hi => hx i (by omega)) (by omega)⟩

theorem runes_of {H : Type} {enc : TypeId × Value → H} {W : World} {a0 : Option Addr} {len0 cap0 : Nat} {d : DataW H} {ps : List MemPlace}
    (h0 : DataW.Trod enc Try.prog W 0 (fun _ => true) true 22 (.slice a0 len0 cap0) d ps) : ∃ (x : Sl) (S : Nat → Int), x.s = a0 ∧ x.n = len0 ∧ x.c = cap0 ∧ Runes W x S := by
  obtain ⟨fuel, hf⟩ := h0
  rcases open_ints Try.underlying22 Try.underlying21 cells21 hf with ⟨hcs, _⟩ | ⟨a, len, cap, ss, hcs, _, hl, hm, hlen, _, hx, hsz⟩
  · simp [Value.cells] at hcs
    obtain ⟨rfl, rfl, rfl⟩ := hcs
    exact ⟨⟨none, 0, 0, 0, 0⟩, fun _ => 0, rfl, rfl, rfl, ⟨fun i hi => absurd hi (Nat.not_lt_zero i), Nat.zero_le _⟩⟩
  · simp [Value.cells] at hcs
    obtain ⟨rfl, rfl, rfl⟩ := hcs
    simp only [if_true] at hlen
    unfold maxLen at hm
    exact ⟨⟨some a, len0, cap0, a.block, a.off⟩, fun i => ss.getD i 0, rfl, rfl, rfl, has_of (fun i hi => hx i (by omega)) (by omega)⟩

end Go.Proofs.Qxb6601041a
