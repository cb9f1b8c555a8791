/-
  Seat b6601041a: (*glob).run: the run at i, out of the glob's rows.
-/
import Derived.Test.Qxb6601041aFindA
import Derived.BigRegion
import Derived.BigQuiet
import Derived.Deep.Cut
import Derived.Deep.CutRange
namespace Go.Proofs.Qxb6601041a
open Go.RowKit

/-- One run of a glob: gap, characters, lits, masks. -/
structure RunV where
  gap : Nat
  C : List Int
  L : List Int
  M : List Nat

/-- The spans' cells: gap, and where characters, lits and masks end. -/
def spans : List RunV → Nat → Nat → Nat → List Value
  | [], _, _, _ => []
  | r :: rs, a, b, c => [.int .i32 (r.gap : Nat), .int .i32 ((a + r.C.length : Nat) : Int), .int .i32 ((b + r.L.length : Nat) : Int), .int .i32 ((c + r.M.length : Nat) : Int)] ++ spans rs (a + r.C.length) (b + r.L.length) (c + r.M.length)

def allC (R : List RunV) : List Int := R.flatMap RunV.C
def allL (R : List RunV) : List Int := R.flatMap RunV.L
def allM (R : List RunV) : List Nat := R.flatMap RunV.M

/-- The glob at gb: her four rows (vc, vl, vm, vs) and whether she matches words. -/
structure GlobAt (w : World) (gb : Nat) (words : Bool) (R : List RunV) (vc vl vm vs : Value) : Prop where
  blk : w.heap[gb]? = some (.cells #[vc, vl, vm, vs, .bool words] 62 (0, 0))
  hc : w.ownsRow (gb + 1) 21 1 vc (allC R).length ((allC R).map (Value.int .i32))
  hl : w.ownsRow (gb + 1) 21 1 vl (allL R).length ((allL R).map (Value.int .i32))
  hm : w.ownsRow (gb + 1) 65 1 vm (allM R).length ((allM R).map fun x => Value.int .u64 (x : Nat))
  hs : w.ownsRow (gb + 1) 69 4 vs R.length (spans R 0 0 0)
  dis : ∀ b, vc.ownBlock = some b → vl.ownBlock ≠ some b

theorem spans_length (R : List RunV) (a b c : Nat) : (spans R a b c).length = R.length * 4 := by
  induction R generalizing a b c with
  | nil => rfl
  | cons r rs ih => simp [spans, ih]; omega

theorem spans_append (R : List RunV) (r : RunV) (a b c : Nat) : spans (R ++ [r]) a b c = spans R a b c ++ [.int .i32 (r.gap : Nat), .int .i32 ((a + (allC R).length + r.C.length : Nat) : Int), .int .i32 ((b + (allL R).length + r.L.length : Nat) : Int), .int .i32 ((c + (allM R).length + r.M.length : Nat) : Int)] := by
  induction R generalizing a b c with
  | nil => simp [spans, allC, allL, allM]
  | cons q R ih => simp [spans, ih, allC, allL, allM, Nat.add_assoc]

/-- The cells of the span i of R = A ++ r :: B, i = |A|. -/
theorem spans_at (A B : List RunV) (r : RunV) : ∀ (a b c : Nat) (k : Nat), k < 4 → (spans (A ++ r :: B) a b c)[A.length * 4 + k]? = [Value.int .i32 (r.gap : Nat), .int .i32 ((a + (allC A).length + r.C.length : Nat) : Int), .int .i32 ((b + (allL A).length + r.L.length : Nat) : Int), .int .i32 ((c + (allM A).length + r.M.length : Nat) : Int)][k]? := by
  induction A with
  | nil =>
    intro a b c k hk
    simp only [List.nil_append, spans, List.length_nil, Nat.zero_mul, Nat.zero_add, allC, allL, allM, List.flatMap_nil, Nat.add_zero]
    rw [List.getElem?_append_left (by simpa using hk)]
  | cons q A ih =>
    intro a b c k hk
    simp only [List.cons_append, spans, List.length_cons, List.nil_append]
    rw [show (A.length + 1) * 4 + k = A.length * 4 + k + 4 by omega]
    simp only [List.getElem?_cons_succ]
    rw [ih _ _ _ k hk]
    simp [allC, allL, allM, Nat.add_assoc]

/-- The elements of a run's part of a row. -/
theorem flat_mid {α : Type} (f : RunV → List α) (A B : List RunV) (r : RunV) (i : Nat) (hi : i < (f r).length) : ((A ++ r :: B).flatMap f)[(A.flatMap f).length + i]? = (f r)[i]? := by
  rw [List.flatMap_append, List.getElem?_append_right (by omega), List.flatMap_cons, Nat.add_sub_cancel_left, List.getElem?_append_left hi]
/-- A part of a row of one-cell elements that the call owns: the slice, as a run equation, and what it holds. -/
theorem slice_own {w : World} {base : Nat} {t e : TypeId} {v : Value} {n : Nat} {xs : List Value} (ht : Try.prog.underlying t = some (.slice e)) (hsz : ∀ w, (sizeOf e).run Try.prog w = .ok 1 w) (hown : w.ownsRow base e 1 v n xs) {a b : Nat} (hab : a ≤ b) (hbn : b ≤ n) (hn : n ≤ 1073741824) (k1 k2 : IntKind) :
    ∃ x : Sl, x.n = b - a ∧ x.n ≤ x.c ∧ x.c ≤ 9223372036854775807 ∧ (∀ w', (Instr.slice t v (some (.int k1 a)) (some (.int k2 b)) none).run Try.prog w' = .ok (.slice x.s x.n x.c) w') ∧ (0 < x.n → v.ownBlock = some x.b ∧ x.s = some ⟨x.b, x.off, none⟩) ∧
      ∀ (w' : World) (F : Nat → Value), (∀ g, v.ownBlock = some g → w'.heap[g]? = w.heap[g]?) → (∀ i, i < b - a → xs[a + i]? = some (F i)) → x.Has w' F := by
  rcases hown.2 with ⟨rfl, rfl⟩ | ⟨g, cap, cur, rfl, hbg, hg, hnc, hcm, hcs, htake⟩
  · obtain rfl : b = 0 := by omega
    obtain rfl : a = 0 := by omega
    refine ⟨⟨none, 0, 0, 0, 0⟩, rfl, Nat.le_refl _, by simp, fun w' => ?_, fun h => absurd h (Nat.lt_irrefl _), fun w' F _ _ => ⟨fun i hi => absurd hi (Nat.not_lt_zero _), by simp⟩⟩
    simp [Instr.slice, run_underlying ht, Instr.sliceBounds, Instr.sliceBound, asIntOf, go_sem, hsz]
  · have hcm' : cap ≤ 9223372036854775807 := by simpa [maxLen] using hcm
    refine ⟨⟨some ⟨g, if cap = a then 0 else a, none⟩, b - a, cap - a, g, if cap = a then 0 else a⟩, rfl, by simp only []; omega, by simp only []; omega, fun w' => ?_, fun _ => ⟨rfl, rfl⟩, fun w' F hb hF => ⟨fun i hi => ⟨rfl, ?_⟩, by simp only []; omega⟩⟩
    · simp [Instr.slice, run_underlying ht, Instr.sliceBounds, Instr.sliceBound, asIntOf, go_sem, hsz]
      rw [if_pos (by omega), if_pos hab]
      by_cases h : cap = a
      · simp [h]
      · simp [h]
    · simp only [] at hi ⊢
      have h1 := hF i hi
      rw [if_neg (by omega)]
      rw [World.cell?_of_block (w := w) (a := ⟨g, a + i, none⟩) (hb g rfl), hown.cellAt (a + i) (by omega), h1]

/-- Three new blocks. -/
structure Three (w : World) (c1 c2 c3 : Array Value) (W : World) : Prop where
  a1 : ∀ k, W.cell? ⟨w.heap.size, k, none⟩ = c1[k]?
  a2 : ∀ k, W.cell? ⟨w.heap.size + 1, k, none⟩ = c2[k]?
  a3 : ∀ k, W.cell? ⟨w.heap.size + 1 + 1, k, none⟩ = c3[k]?
  old : ∀ a v, w.cell? a = some v → W.cell? a = some v
  below : Below w.heap.size w W
  frz : ∀ k, W.frozen? ⟨w.heap.size, k, none⟩ = false
  size : W.heap.size = w.heap.size + 1 + 1 + 1
  blk : ∃ t, W.heap[w.heap.size]? = some (.cells c1 t (0, 0))

theorem three (w : World) (c1 c2 c3 : Array Value) (t1 t2 t3 : TypeId) : Three w c1 c2 c3 (((w.alloc (.cells c1 t1)).alloc (.cells c2 t2)).alloc (.cells c3 t3)) := by
  have hs1 : (w.alloc (.cells c1 t1)).heap.size = w.heap.size + 1 := by simp
  have hs2 : ((w.alloc (.cells c1 t1)).alloc (.cells c2 t2)).heap.size = w.heap.size + 1 + 1 := by simp
  have b1 : (w.alloc (.cells c1 t1)).heap[w.heap.size]? = some (.cells c1 t1 (0, 0)) := by show (w.heap.push _)[w.heap.size]? = _; simp
  have b1' : (((w.alloc (.cells c1 t1)).alloc (.cells c2 t2)).alloc (.cells c3 t3)).heap[w.heap.size]? = some (.cells c1 t1 (0, 0)) := by
    rw [Below.heap_alloc _ _ _ (by omega), Below.heap_alloc _ _ _ (by omega)]
    exact b1
  have b2 : ((w.alloc (.cells c1 t1)).alloc (.cells c2 t2)).heap[w.heap.size + 1]? = some (.cells c2 t2 (0, 0)) := by
    have := heap_alloc_new (w.alloc (.cells c1 t1)) (.cells c2 t2)
    rwa [hs1] at this
  have b2' : (((w.alloc (.cells c1 t1)).alloc (.cells c2 t2)).alloc (.cells c3 t3)).heap[w.heap.size + 1]? = some (.cells c2 t2 (0, 0)) := by
    rw [Below.heap_alloc _ _ _ (by omega)]
    exact b2
  have b3 : (((w.alloc (.cells c1 t1)).alloc (.cells c2 t2)).alloc (.cells c3 t3)).heap[w.heap.size + 1 + 1]? = some (.cells c3 t3 (0, 0)) := by
    have := heap_alloc_new ((w.alloc (.cells c1 t1)).alloc (.cells c2 t2)) (.cells c3 t3)
    rwa [hs2] at this
  refine ⟨fun k => ?_, fun k => ?_, fun k => ?_, fun a v h => Lib.cell?_alloc_some _ (Lib.cell?_alloc_some _ (Lib.cell?_alloc_some _ h)), ?_, fun k => ?_, by simp, ⟨t1, b1'⟩⟩
  · simp only [World.cell?, b1']
    rfl
  · simp only [World.cell?, b2']
    rfl
  · simp only [World.cell?, b3]
    rfl
  · exact (((Below.refl _ w).alloc (Nat.le_refl _) _).alloc (by omega) _).alloc (by omega) _
  · simp [World.frozen?, b1']

/-- Five cells of a block written. -/
theorem five {W : World} {b : Nat} {t : TypeId} {x0 x1 x2 x3 x4 : Value} (h : W.heap[b]? = some (.cells #[x0, x1, x2, x3, x4] t (0, 0))) (v0 v1 v2 v3 v4 : Value) :
    (((((W.setCell ⟨b, 0, none⟩ v0).setCell ⟨b, 1, none⟩ v1).setCell ⟨b, 2, none⟩ v2).setCell ⟨b, 3, none⟩ v3).setCell ⟨b, 4, none⟩ v4).heap[b]? = some (.cells #[v0, v1, v2, v3, v4] t (0, 0)) := by
  rw [heap_setCell_same _ _ _ _ _ _ (heap_setCell_same _ _ _ _ _ _ (heap_setCell_same _ _ _ _ _ _ (heap_setCell_same _ _ _ _ _ _ (heap_setCell_same _ _ _ _ _ _ h))))]
  rfl

/-- The run as a value: her gap, characters, width, lits, masks. -/
def runV (gap : Int) (x l m : Sl) : Value := .agg #[.int .i64 gap, .slice x.s x.n x.c, .int .i64 (((x.n + 63) / 64 : Nat) : Int), .slice l.s l.n l.c, .slice m.s m.n m.c]
theorem runV_eq (gap : Int) (x l m : Sl) : Value.agg #[.int .i64 gap, .slice x.s x.n x.c, .int .i64 (((x.n : Int) + 63) / 64), .slice l.s l.n l.c, .slice m.s m.n m.c] = runV gap x l m := by
  unfold runV
  rw [show ((((x.n + 63) / 64 : Nat)) : Int) = ((x.n : Int) + 63) / 64 by omega]
structure RunPost (w : World) (gap : Int) (x l m : Sl) (e : Ending) (w' : World) : Prop where
  ret : e = .returned (runV gap x l m)
  below : Below w.heap.size w w'

theorem RunPost.intro' {w : World} {gap : Int} {x l m : Sl} {v : Value} {w' : World} (h : v = runV gap x l m) (hb : Below w.heap.size w w') : RunPost w gap x l m (.returned v) w' := ⟨by rw [h], hb⟩

set_option maxRecDepth 100000 in
set_option maxHeartbeats 2000000 in
theorem run_zero {w : World} {gb sg sn scap : Nat} {vc vl vm wv : Value} {gap : Int} {tc tl tm : Nat} {x l m : Sl} (hgb : w.heap[gb]? = some (.cells #[vc, vl, vm, .slice (some ⟨sg, 0, none⟩) sn scap, wv] 62 (0, 0))) (hsn : 0 < sn)
    (c0 : w.cell? ⟨sg, 0, none⟩ = some (.int .i32 gap)) (c1 : w.cell? ⟨sg, 1, none⟩ = some (.int .i32 tc)) (c2 : w.cell? ⟨sg, 2, none⟩ = some (.int .i32 tl)) (c3 : w.cell? ⟨sg, 3, none⟩ = some (.int .i32 tm)) (hgap : -2147483648 ≤ gap ∧ gap ≤ 2147483647)
    (hx : ∀ w', (Instr.slice 22 vc (some (.int .i32 0)) (some (.int .i32 tc)) none).run Try.prog w' = .ok (.slice x.s x.n x.c) w') (hl : ∀ w', (Instr.slice 22 vl (some (.int .i32 0)) (some (.int .i32 tl)) none).run Try.prog w' = .ok (.slice l.s l.n l.c) w')
    (hm : ∀ w', (Instr.slice 45 vm (some (.int .i32 0)) (some (.int .i32 tm)) none).run Try.prog w' = .ok (.slice m.s m.n m.c) w') (hxb : x.n ≤ 1048576) :
    Calls Try.prog 38 #[.pointer (some ⟨gb, 0, none⟩), .int .i64 0] w (RunPost w gap x l m) := by
  have hgl : gb < w.heap.size := (Array.getElem?_eq_some_iff.1 hgb).1
  have hsl : sg < w.heap.size := block_lt c0
  have g0 : w.cell? ⟨gb, 0, none⟩ = some vc := by simp [World.cell?, hgb]
  have g1 : w.cell? ⟨gb, 1, none⟩ = some vl := by simp [World.cell?, hgb]
  have g2 : w.cell? ⟨gb, 2, none⟩ = some vm := by simp [World.cell?, hgb]
  have g3 : w.cell? ⟨gb, 3, none⟩ = some (.slice (some ⟨sg, 0, none⟩) sn scap) := by simp [World.cell?, hgb]
  clear hgb
  go_enter Try.func38, Try.ntmps38
  go_upto_region 5 with fail
  generalize hW : World.alloc _ _ = W0
  have h3 := three w #[.int .i64 0, .slice none 0 0, .int .i64 0, .slice none 0 0, .slice none 0 0] #[.int .i32 0, .int .i32 0, .int .i32 0, .int .i32 0] #[.int .i32 gap, .int .i32 tc, .int .i32 tl, .int .i32 tm] 56 69 69
  rw [hW] at h3
  clear hW
  have H3 := hid h3
  have q0 := h3.old _ _ g0
  have q1 := h3.old _ _ g1
  have q2 := h3.old _ _ g2
  have a0 := h3.a1 0
  have a1 := h3.a1 1
  have a2 := h3.a1 2
  have a3 := h3.a1 3
  have a4 := h3.a1 4
  have z0 := h3.frz 0
  have z1 := h3.frz 1
  have z2 := h3.frz 2
  have z3 := h3.frz 3
  have z4 := h3.frz 4
  have b1 := h3.a2 1
  have b2 := h3.a2 2
  have b3 := h3.a2 3
  have d0 := h3.a3 0
  have d1 := h3.a3 1
  have d2 := h3.a3 2
  have d3 := h3.a3 3
  simp at a0 a1 a2 a3 a4 b1 b2 b3 d0 d1 d2 d3
  clear h3 g0 g1 g2 g3 c0 c1 c2 c3
  go_quiet (fail)
  go_upto_region 6 with fail
  go_region
  go_wp2
  generalize hW5 : World.setCell _ _ _ = W5
  obtain ⟨t, hblk⟩ := H3.out.blk
  have h5 : W5.heap[w.heap.size]? = some (.cells #[.int .i64 gap, .slice x.s x.n x.c, .int .i64 (((x.n : Int) + 63) / 64), .slice l.s l.n l.c, .slice m.s m.n m.c] t (0, 0)) := by
    rw [← hW5]
    exact five (W := W0.drewN (nq + 1)) hblk _ _ _ _ _
  have hB : Below w.heap.size w W5 := by
    rw [← hW5]
    exact (((((Below.drawn H3.out.below (nq + 1)).setCell (Nat.le_refl _) _).setCell (Nat.le_refl _) _).setCell (Nat.le_refl _) _).setCell (Nat.le_refl _) _).setCell (Nat.le_refl _) _
  have e0 : W5.cell? ⟨w.heap.size, 0, none⟩ = some (.int .i64 gap) := by simp [World.cell?, h5]
  have e1 : W5.cell? ⟨w.heap.size, 1, none⟩ = some (.slice x.s x.n x.c) := by simp [World.cell?, h5]
  have e2 : W5.cell? ⟨w.heap.size, 2, none⟩ = some (.int .i64 (((x.n : Int) + 63) / 64)) := by simp [World.cell?, h5]
  have e3 : W5.cell? ⟨w.heap.size, 3, none⟩ = some (.slice l.s l.n l.c) := by simp [World.cell?, h5]
  have e4 : W5.cell? ⟨w.heap.size, 4, none⟩ = some (.slice m.s m.n m.c) := by simp [World.cell?, h5]
  clear hW5 hblk h5
  refine bodyPost_ret (by simp [results, Try.results38, go_sem, e0, e1, e2, e3, e4]; try rfl) rfl ?_
  exact RunPost.intro' (runV_eq gap x l m) hB
end Go.Proofs.Qxb6601041a
