/-
  Rows.FnClusteringMatchesPairCountSaid, proved: the law's walk out of the contracts, and the row's step (the frame of the skeleton tool for a law over slices, turned to a slice of slices).
-/
import Derived.Test.Qxb6602927aWalksD
import Derived.WalkKit
import Derived.ProofKit
import Derived.OpenShut
import Derived.ChangeOld
import Derived.Below
import Derived.Deep.Matrix
namespace Go.Proofs.Qxb6602927a.fnClusteringMatchesPairCount
open Go.ChangeShapes Go.WideShapes Go.ChangeAt Go.RowKit Go.Deep
set_option linter.unusedVariables false

theorem own : ownKnob Try.prog.godebug = none := by kernel_rfl
theorem laidOut : laidOutB Try.prog = true := by kernel_rfl

theorem In.below {G : Gph} {w w' : World} (h : G.In w) (hb : Below w.heap.size w w') : G.In w' := by
  refine ⟨fun v hv => ⟨(h.g v hv).1, ?_⟩, fun v hv i hi => ⟨((h.r v hv) i hi).1, ?_⟩, h.n, h.l, fun v hv => Nat.lt_of_lt_of_le (h.gblk v hv) hb.size, fun v hv i hi => Nat.lt_of_lt_of_le (h.rblk v hv i hi) hb.size, h.wf⟩
  · rw [hb.cell (p := ⟨G.gb, G.go + v, none⟩) (h.gblk v hv)]
    exact (h.g v hv).2
  · rw [hb.cell (p := ⟨G.B v, G.O v + i, none⟩) (h.rblk v hv i hi)]
    exact ((h.r v hv) i hi).2

theorem drawn {B : Nat} {w w' : World} (h : Below B w w') (q : Nat) : Below B w (w'.drewN q) := ⟨h.os, h.tape, h.output, h.size, h.block⟩

set_option maxHeartbeats 400000 in
theorem walk (G : Gph) (w : World) (h : G.In w) :
    Calls Try.prog 3 #[.slice G.a G.n G.cap] w fun e w' => e = .returned (.bool true) ∧ Below w.heap.size w w' := by
  have HI : Hid (G.In w) := h
  clear h
  go_enter Try.func3, Try.ntmps3
  go_wp2_with fail
  refine (bytes_any G w HI.out).mono ?_
  rintro e w1 ⟨b, rfl, hw⟩
  subst hw
  cases b with
  | false =>
    go_wp2
    go_ret
    exact ⟨rfl, Below.refl _ _⟩
  | true =>
    go_wp2_with fail
    refine (size_any G _ HI.out).mono ?_
    rintro e w1 ⟨b, rfl, hw, hsz⟩
    subst hw
    cases b with
    | false =>
      go_wp2
      go_ret
      exact ⟨rfl, Below.refl _ _⟩
    | true =>
      obtain ⟨hn, hl⟩ := hsz rfl
      have HL : Hid (∀ v, v < G.n → G.L v ≤ 256) := hl
      clear hl hsz
      go_wp2_with fail
      refine (simple_any G _ HI.out hn HL.out).mono ?_
      rintro e w2 ⟨b, rfl, hb, hs⟩
      have HB := hid hb
      have HS := hid hs
      clear hb hs
      cases b with
      | false =>
        go_wp2
        go_ret
        exact ⟨rfl, HB.out⟩
      | true =>
        have HI2 := hid (In.below HI.out HB.out)
        have HSS := hid (HS.out rfl)
        go_wp2_with fail
        refine (clustering_any G _ HI2.out hn HL.out HSS.out).mono ?_
        rintro e w3 ⟨rfl, q, hw⟩
        subst hw
        go_wp2_with fail
        refine (model_any G _ (In.drewN HI2.out q) hn HL.out HSS.out).mono ?_
        rintro e w4 ⟨rfl, q2, hw⟩
        subst hw
        have e1 : res (ml G) G.L G.n = res (cl G) G.L G.n := res_congr fun v hv => (rows_eq HSS.out.range HSS.out.self HSS.out.once v hv).symm
        rw [e1]
        have ho : FloatKind.f64.format.order (res (cl G) G.L G.n) (res (cl G) G.L G.n) = some .eq := order_nn (res_nn _ _ _ hn HL.out)
        clear e1
        generalize res (cl G) G.L G.n = r at ho ⊢
        go_wp2
        go_ret
        exact ⟨by simp, drawn HB.out _⟩

/-! ### FROM THE READING TO THE GRAPH -/
theorem cells28 : Try.prog.cellsOf 28 = 1 := by kernel_rfl
theorem cells21 : Try.prog.cellsOf 21 = 1 := by kernel_rfl

theorem plain_addr {w : World} {a : Addr} {v : Value} (h : w.cell? (a.add 0) = some v) : a = ⟨a.block, a.off, none⟩ := by
  obtain ⟨b, off, spot⟩ := a
  have hspot : spot = none := by simpa [Addr.add] using World.cell?_spot h
  subst hspot
  rfl
theorem cell_at {w : World} {b off i : Nat} {v : Value} (h : w.cell? ((⟨b, off, none⟩ : Addr).add i) = some v) : w.cell? ⟨b, off + i, none⟩ = some v := by
  rw [← Go.WideShapes.add_plain]; exact h
theorem block_lt {w : World} {a : Addr} {v : Value} (h : w.cell? a = some v) : a.block < w.heap.size := by
  rcases Nat.lt_or_ge a.block w.heap.size with h1 | h1
  · exact h1
  · have : w.heap[a.block]? = none := by simp [h1]
    simp [World.cell?, this] at h

theorem graph_of {H : Type} {enc : TypeId × Value → H} {W : World} {a0 : Option Addr} {len0 cap0 : Nat} {d : DataW H} {ps : List MemPlace}
    (h0 : DataW.Trod enc Try.prog W 0 (fun _ => true) true 22 (.slice a0 len0 cap0) d ps) : ∃ G : Gph, G.a = a0 ∧ G.n = len0 ∧ G.cap = cap0 ∧ G.In W := by
  obtain ⟨fuel, hf⟩ := h0
  rcases open_int_rows Try.underlying22 Try.underlying28 Try.underlying21 cells28 cells21 hf with ⟨hcs, _⟩ | ⟨a, len, cap, A, L, C, Z, hcs, _, hl, hm, _, hx⟩
  · simp [Value.cells] at hcs
    obtain ⟨rfl, rfl, rfl⟩ := hcs
    exact ⟨⟨none, 0, 0, 0, 0, fun _ => none, fun _ => 0, fun _ => 0, fun _ => 0, fun _ => 0, fun _ _ => 0⟩, rfl, rfl, rfl,
      ⟨fun v hv => absurd hv (Nat.not_lt_zero v), fun v hv => absurd hv (Nat.not_lt_zero v), Nat.zero_le _, fun v hv => absurd hv (Nat.not_lt_zero v), fun v hv => absurd hv (Nat.not_lt_zero v), fun v hv => absurd hv (Nat.not_lt_zero v), fun v hv => absurd hv (Nat.not_lt_zero v)⟩⟩
  · simp [Value.cells] at hcs
    obtain ⟨rfl, rfl, rfl⟩ := hcs
    unfold maxLen at hm
    have hA : ∀ v, v < len0 → ∀ i, i < L v → ∃ b off, A v = some ⟨b, off, none⟩ := by
      intro v hv i hi
      obtain ⟨_, h1, h2, _, _, h5, h6⟩ := hx v (by omega)
      cases hA : A v with
      | none => have := h5 hA; omega
      | some a' =>
        obtain ⟨_, hc⟩ := h6 a' hA
        have := plain_addr (hc 0 (by omega))
        exact ⟨a'.block, a'.off, by rw [← this]⟩
    refine ⟨⟨some a, len0, cap0, a.block, a.off, A, L, C, fun v => ((A v).getD ⟨0, 0, none⟩).block, fun v => ((A v).getD ⟨0, 0, none⟩).off, fun v i => (Z v).getD i 0⟩, rfl, rfl, rfl, ?_⟩
    have hrow : ∀ v, v < len0 → Row W (A v) (L v) ((A v).getD ⟨0, 0, none⟩).block ((A v).getD ⟨0, 0, none⟩).off (fun i => (Z v).getD i 0) := by
      intro v hv i hi
      obtain ⟨b, off, e⟩ := hA v hv i hi
      obtain ⟨_, h1, _, _, _, _, h6⟩ := hx v (by omega)
      obtain ⟨_, hc⟩ := h6 _ e
      rw [e]
      exact ⟨rfl, cell_at (hc i (by omega))⟩
    have hg : ∀ v, v < len0 → some a = some ⟨a.block, a.off, none⟩ ∧ W.cell? ⟨a.block, a.off + v, none⟩ = some (.slice (A v) (L v) (C v)) := by
      intro v hv
      have e := plain_addr (hx 0 (by omega)).1
      have hc := (hx v (by omega)).1
      rw [e] at hc
      exact ⟨by rw [← e], cell_at hc⟩
    refine ⟨hg, hrow, by show len0 ≤ _; omega, fun v hv => ?_, fun v hv => block_lt (a := ⟨a.block, a.off + v, none⟩) (hg v hv).2, fun v hv i hi => block_lt (a := ⟨((A v).getD ⟨0, 0, none⟩).block, ((A v).getD ⟨0, 0, none⟩).off + i, none⟩) ((hrow v hv) i hi).2, fun v hv i hi => ?_⟩
    · obtain ⟨_, h1, h2, _⟩ := hx v (by show v < cap0; exact Nat.lt_of_lt_of_le hv hl)
      unfold maxLen at h2
      show L v ≤ _
      omega
    · obtain ⟨_, h1, h2, h3, h4, _⟩ := hx v (by show v < cap0; exact Nat.lt_of_lt_of_le hv hl)
      have hi' : i < (Z v).length := by rw [h3]; exact Nat.lt_of_lt_of_le hi h1
      have hw := bounds_i32 (h4 ((Z v).getD i 0) (by rw [List.getD_eq_getElem?_getD, List.getElem?_eq_getElem hi']; exact List.getElem_mem hi'))
      exact hw

/-! ### THE ROW's STEP -/
set_option maxRecDepth 100000 in
theorem lifted (os : Os) (started : os.Started) (H : Type) (enc : TypeId × Value → H) :
    ReturnsInHanded {} Try.checked os 3 .any (Rows.fnClusteringMatchesPairCountSpec.pre6 enc Try.prog Try.f3 Rows.fnClusteringMatchesPairCountRow.domain false) (Rows.fnClusteringMatchesPairCountSpec.post enc Try.prog Try.f3 false true false false) := by
  refine returnsInHanded_of_change (C := Try.checked) own started (by kernel_rfl) Try.func3
    (ChangeSpec.witness6 (enc := enc) (C := Try.checked) false ⟨#[], #[.slice none 0 0], []⟩ 8 (by kernel_rfl) (by kernel_rfl) (by kernel_rfl) (by kernel_rfl)) ?_
  intro W base args ds gs before hval0 hW hcnd _
  have hval : ∀ (j : Nat) t v, Try.f3.params[j]? = some t → args[j]? = some v → Value.okWide Try.prog W .any base t v := hval0
  have hW' := hW
  obtain ⟨p, q, hA0, hV, rfl, hfz, hnd⟩ := hW
  have hA : DataW.TrodAll enc Try.prog W 0 (fun _ => true) true Try.f3.params.toList args.toList ds p := hA0
  rw [Try.params3] at hA hval
  obtain ⟨v0, vs0, d0, ds0, p0, q0, hargs, rfl, rfl, h0, r0⟩ := trodAll_cons hA
  obtain ⟨rfl, rfl, rfl⟩ := trodAll_nil r0
  obtain rfl : args = #[v0] := by cases args; simp_all
  obtain ⟨rfl, rfl⟩ := trodVars_none hV
  obtain ⟨a0, len0, cap0, rfl⟩ := okWide_slice Try.underlying22 (hval 0 22 v0 rfl rfl)
  have k0 := h0
  have lt0 : ∀ x ∈ p0, x.block < W.heap.size := by obtain ⟨m, hm⟩ := k0; exact DataW.trod_lt m _ _ _ hm
  obtain ⟨G, rfl, rfl, rfl, hG⟩ := graph_of h0
  clear hA0 hval0
  refine (walk G W hG).mono fun e W' ⟨he, bel⟩ => ?_
  subst he
  exact ⟨_, rfl, _, _, _, [], _, [], hW', trodAll_mk1 (shut_bool Try.underlying4 _), (trodAll_cons_mk (Below.trod laidOut (by kernel_rfl) (of_decide_eq_true (by kernel_rfl)) k0 bel lt0) trodAll_mk0), rfl, bel.frame _, fun h => by cases h⟩

theorem over : Rows.fnClusteringMatchesPairCountRow.holds Try.pinned (OpenSpec.ofChange Rows.fnClusteringMatchesPairCountSpec) :=
  OpenClaim.holds_of_wide 3 Try.f3 rfl rfl rfl rfl rfl rfl rfl ⟨rfl, rfl, rfl, rfl, rfl⟩ rfl rfl rfl rfl rfl (by kernel_rfl) Try.func3 (by kernel_rfl)
    (of_decide_eq_true (by kernel_rfl)) (by unfold Func.isWrapper; first | (rw [if_pos (by decide +kernel)]; kernel_rfl) | (rw [if_neg (by decide +kernel)]; exact ⟨rfl, rfl⟩))
    (fun os started H enc _ => lifted os started H enc)

end Go.Proofs.Qxb6602927a.fnClusteringMatchesPairCount

namespace Go.Proofs.Qxb6602927a
theorem clustering_proved : Rows.FnClusteringMatchesPairCountSaid := fnClusteringMatchesPairCount.over
end Go.Proofs.Qxb6602927a
