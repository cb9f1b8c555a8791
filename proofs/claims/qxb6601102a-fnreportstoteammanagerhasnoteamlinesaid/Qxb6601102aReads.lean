/-
  FROM THE READING OF AN ARGUMENT TO THE SLICE AS IT LIES: []string, []bool, []int, [][]int.
-/
import Derived.Test.Qxb6601102aViews
import Derived.ProofKit
import Derived.OpenShut
import Derived.ChangeOld
import Derived.Below
import Derived.Deep.Matrix
import Derived.Deep.Grids
import Derived.SliceStrings
namespace Go.Proofs.Qxb6601102a
open Go.ChangeShapes Go.WideShapes Go.ChangeAt Go.RowKit Go.Deep
set_option linter.unusedVariables false

theorem cells9 : Try.prog.cellsOf 9 = 1 := by kernel_rfl
theorem cells4 : Try.prog.cellsOf 4 = 1 := by kernel_rfl
theorem cells3 : Try.prog.cellsOf 3 = 1 := by kernel_rfl
theorem cells24 : Try.prog.cellsOf 24 = 1 := by kernel_rfl

theorem plain_addr {w : World} {a : Addr} {v : Value} (h : w.cell? (a.add 0) = some v) : a = ⟨a.block, a.off, none⟩ := by
  obtain ⟨b, off, spot⟩ := a
  have hspot : spot = none := by simpa [Addr.add] using World.cell?_spot h
  subst hspot
  rfl
theorem cell_at {w : World} {b off i : Nat} {v : Value} (h : w.cell? ((⟨b, off, none⟩ : Addr).add i) = some v) : w.cell? ⟨b, off + i, none⟩ = some v := by
  rw [← Go.WideShapes.add_plain]; exact h

theorem has_of {w : World} {a : Addr} {n c : Nat} {V : Nat → Value} (h : ∀ i, i < n → w.cell? (a.add i) = some (V i)) (hn : n ≤ 9223372036854775807) : (⟨some a, n, c, a.block, a.off⟩ : Sl).Has w V :=
  ⟨fun i hi => by
    have e := plain_addr (h 0 (Nat.lt_of_le_of_lt (Nat.zero_le i) hi))
    have hc := h i hi
    rw [e] at hc
    exact ⟨by show some a = _; rw [← e], cell_at hc⟩, hn⟩

theorem strs_of {H : Type} {enc : TypeId × Value → H} {W : World} {a0 : Option Addr} {len0 cap0 : Nat} {d : DataW H} {ps : List MemPlace}
    (h0 : DataW.Trod enc Try.prog W 0 (fun _ => true) true 22 (.slice a0 len0 cap0) d ps) : ∃ (x : Sl) (S : Nat → ByteArray), x.s = a0 ∧ x.n = len0 ∧ x.c = cap0 ∧ Strs W x S := by
  obtain ⟨fuel, hf⟩ := h0
  rcases open_strings Try.underlying22 Try.underlying9 cells9 hf with ⟨hcs, _⟩ | ⟨a, len, cap, ss, hcs, _, hl, hm, hlen, _, hx, hsz⟩
  · simp [Value.cells] at hcs
    obtain ⟨rfl, rfl, rfl⟩ := hcs
    exact ⟨⟨none, 0, 0, 0, 0⟩, fun _ => ByteArray.empty, rfl, rfl, rfl, ⟨⟨fun i hi => absurd hi (Nat.not_lt_zero i), Nat.zero_le _⟩, fun i hi => absurd hi (Nat.not_lt_zero i)⟩⟩
  · simp [Value.cells] at hcs
    obtain ⟨rfl, rfl, rfl⟩ := hcs
    simp only [if_true] at hlen
    unfold maxLen at hm hsz
    refine ⟨⟨some a, len0, cap0, a.block, a.off⟩, fun i => ss.getD i ByteArray.empty, rfl, rfl, rfl, ⟨has_of (fun i hi => hx i (by omega)) (by omega), fun i hi => ?_⟩⟩
    have hi' : i < ss.length := by have : i < len0 := hi; omega
    have := hsz (ss.getD i ByteArray.empty) (by rw [List.getD_eq_getElem?_getD, List.getElem?_eq_getElem hi']; exact List.getElem_mem hi')
    show (ss.getD i ByteArray.empty).size ≤ _
    omega

theorem bools_of {H : Type} {enc : TypeId × Value → H} {W : World} {a0 : Option Addr} {len0 cap0 : Nat} {d : DataW H} {ps : List MemPlace}
    (h0 : DataW.Trod enc Try.prog W 0 (fun _ => true) true 23 (.slice a0 len0 cap0) d ps) : ∃ (x : Sl) (S : Nat → Bool), x.s = a0 ∧ x.n = len0 ∧ x.c = cap0 ∧ Bools W x S := by
  obtain ⟨fuel, hf⟩ := h0
  rcases open_bools Try.underlying23 Try.underlying4 cells4 hf with ⟨hcs, _⟩ | ⟨a, len, cap, B, hcs, _, hl, hm, _, hx⟩
  · simp [Value.cells] at hcs
    obtain ⟨rfl, rfl, rfl⟩ := hcs
    exact ⟨⟨none, 0, 0, 0, 0⟩, fun _ => false, rfl, rfl, rfl, ⟨⟨fun i hi => absurd hi (Nat.not_lt_zero i), Nat.zero_le _⟩⟩⟩
  · simp [Value.cells] at hcs
    obtain ⟨rfl, rfl, rfl⟩ := hcs
    unfold maxLen at hm
    exact ⟨⟨some a, len0, cap0, a.block, a.off⟩, B, rfl, rfl, rfl, ⟨has_of (fun i hi => hx i (by omega)) (by omega)⟩⟩

theorem ints_of {H : Type} {enc : TypeId × Value → H} {W : World} {a0 : Option Addr} {len0 cap0 : Nat} {d : DataW H} {ps : List MemPlace}
    (h0 : DataW.Trod enc Try.prog W 0 (fun _ => true) true 24 (.slice a0 len0 cap0) d ps) : ∃ (x : Sl) (S : Nat → Int), x.s = a0 ∧ x.n = len0 ∧ x.c = cap0 ∧ Ints W x S := by
  obtain ⟨fuel, hf⟩ := h0
  rcases open_ints Try.underlying24 Try.underlying3 cells3 hf with ⟨hcs, _⟩ | ⟨a, len, cap, ss, hcs, _, hl, hm, hlen, _, hx, hsz⟩
  · simp [Value.cells] at hcs
    obtain ⟨rfl, rfl, rfl⟩ := hcs
    exact ⟨⟨none, 0, 0, 0, 0⟩, fun _ => 0, rfl, rfl, rfl, ⟨⟨fun i hi => absurd hi (Nat.not_lt_zero i), Nat.zero_le _⟩, fun i hi => absurd hi (Nat.not_lt_zero i)⟩⟩
  · simp [Value.cells] at hcs
    obtain ⟨rfl, rfl, rfl⟩ := hcs
    simp only [if_true] at hlen
    unfold maxLen at hm
    refine ⟨⟨some a, len0, cap0, a.block, a.off⟩, fun i => ss.getD i 0, rfl, rfl, rfl, ⟨has_of (fun i hi => hx i (by omega)) (by omega), fun i hi => ?_⟩⟩
    have hi' : i < ss.length := by have : i < len0 := hi; omega
    exact bounds_i64 (hsz (ss.getD i 0) (by rw [List.getD_eq_getElem?_getD, List.getElem?_eq_getElem hi']; exact List.getElem_mem hi'))

theorem intss_of {H : Type} {enc : TypeId × Value → H} {W : World} {a0 : Option Addr} {len0 cap0 : Nat} {d : DataW H} {ps : List MemPlace}
    (h0 : DataW.Trod enc Try.prog W 0 (fun _ => true) true 25 (.slice a0 len0 cap0) d ps) : ∃ (x : Sl) (R : Nat → Sl) (S : Nat → Nat → Int), x.s = a0 ∧ x.n = len0 ∧ x.c = cap0 ∧ Intss W x R S := by
  obtain ⟨fuel, hf⟩ := h0
  rcases open_int_rows Try.underlying25 Try.underlying24 Try.underlying3 cells24 cells3 hf with ⟨hcs, _⟩ | ⟨a, len, cap, A, L, C, Z, hcs, _, hl, hm, _, hx⟩
  · simp [Value.cells] at hcs
    obtain ⟨rfl, rfl, rfl⟩ := hcs
    exact ⟨⟨none, 0, 0, 0, 0⟩, fun _ => ⟨none, 0, 0, 0, 0⟩, fun _ _ => 0, rfl, rfl, rfl, ⟨⟨fun i hi => absurd hi (Nat.not_lt_zero i), Nat.zero_le _⟩, fun i hi => absurd hi (Nat.not_lt_zero i)⟩⟩
  · simp [Value.cells] at hcs
    obtain ⟨rfl, rfl, rfl⟩ := hcs
    unfold maxLen at hm
    refine ⟨⟨some a, len0, cap0, a.block, a.off⟩, fun v => ⟨A v, L v, C v, ((A v).getD ⟨0, 0, none⟩).block, ((A v).getD ⟨0, 0, none⟩).off⟩, fun v i => (Z v).getD i 0, rfl, rfl, rfl, ⟨has_of (fun i hi => (hx i (by omega)).1) (by omega), fun v hv => ?_⟩⟩
    have hv : v < len0 := hv
    obtain ⟨_, h1, h2, h3, h4, h5, h6⟩ := hx v (by omega)
    unfold maxLen at h2
    refine ⟨?_, fun i hi => ?_⟩
    · cases hA : A v with
      | none =>
        have := h5 hA
        have hL : L v = 0 := by omega
        rw [hL]
        exact ⟨fun i hi => absurd hi (Nat.not_lt_zero i), Nat.zero_le _⟩
      | some a' => exact has_of (fun i hi => (h6 a' hA).2 i (by omega)) (by omega)
    · have hi : i < L v := hi
      have hi' : i < (Z v).length := by omega
      exact bounds_i64 (h4 ((Z v).getD i 0) (by rw [List.getD_eq_getElem?_getD, List.getElem?_eq_getElem hi']; exact List.getElem_mem hi'))
end Go.Proofs.Qxb6601102a
