/-
  Seat b6601041a: (*glob).run, for a run behind another.
-/
import Derived.Test.Qxb6601041aRun
namespace Go.Proofs.Qxb6601041a
open Go.RowKit

set_option maxRecDepth 100000 in
set_option maxHeartbeats 2000000 in
theorem run_succ {w : World} {gb sg sn scap A fc fl fm : Nat} {gap0 : Int} {vc vl vm wv : Value} {gap : Int} {tc tl tm : Nat} {x l m : Sl} (hgb : w.heap[gb]? = some (.cells #[vc, vl, vm, .slice (some ⟨sg, 0, none⟩) sn scap, wv] 62 (0, 0))) (hsn : A + 1 < sn) (hbig : sn ≤ 1048576)
    (p0 : w.cell? ⟨sg, A * 4, none⟩ = some (.int .i32 gap0)) (p1 : w.cell? ⟨sg, A * 4 + 1, none⟩ = some (.int .i32 fc)) (p2 : w.cell? ⟨sg, A * 4 + 2, none⟩ = some (.int .i32 fl)) (p3 : w.cell? ⟨sg, A * 4 + 3, none⟩ = some (.int .i32 fm))
    (c0 : w.cell? ⟨sg, (A + 1) * 4, none⟩ = some (.int .i32 gap)) (c1 : w.cell? ⟨sg, (A + 1) * 4 + 1, none⟩ = some (.int .i32 tc)) (c2 : w.cell? ⟨sg, (A + 1) * 4 + 2, none⟩ = some (.int .i32 tl)) (c3 : w.cell? ⟨sg, (A + 1) * 4 + 3, none⟩ = some (.int .i32 tm)) (hgap : -2147483648 ≤ gap ∧ gap ≤ 2147483647)
    (hx : ∀ w', (Instr.slice 22 vc (some (.int .i32 fc)) (some (.int .i32 tc)) none).run Try.prog w' = .ok (.slice x.s x.n x.c) w') (hl : ∀ w', (Instr.slice 22 vl (some (.int .i32 fl)) (some (.int .i32 tl)) none).run Try.prog w' = .ok (.slice l.s l.n l.c) w')
    (hm : ∀ w', (Instr.slice 45 vm (some (.int .i32 fm)) (some (.int .i32 tm)) none).run Try.prog w' = .ok (.slice m.s m.n m.c) w') (hxb : x.n ≤ 1048576) :
    Calls Try.prog 38 #[.pointer (some ⟨gb, 0, none⟩), .int .i64 ((A + 1 : Nat) : Int)] w (RunPost w gap x l m) := by
  have hgl : gb < w.heap.size := (Array.getElem?_eq_some_iff.1 hgb).1
  have hsl : sg < w.heap.size := block_lt c0
  have g0 : w.cell? ⟨gb, 0, none⟩ = some vc := by simp [World.cell?, hgb]
  have g1 : w.cell? ⟨gb, 1, none⟩ = some vl := by simp [World.cell?, hgb]
  have g2 : w.cell? ⟨gb, 2, none⟩ = some vm := by simp [World.cell?, hgb]
  have g3 : w.cell? ⟨gb, 3, none⟩ = some (.slice (some ⟨sg, 0, none⟩) sn scap) := by simp [World.cell?, hgb]
  clear hgb
  go_enter Try.func38, Try.ntmps38
  go_upto_region 5 with fail
  generalize hW : World.alloc _ _ = W0
  have h3 := three w #[.int .i64 0, .slice none 0 0, .int .i64 0, .slice none 0 0, .slice none 0 0] #[.int .i32 gap0, .int .i32 fc, .int .i32 fl, .int .i32 fm] #[.int .i32 gap, .int .i32 tc, .int .i32 tl, .int .i32 tm] 56 69 69
  rw [hW] at h3
  clear hW
  have H3 := hid h3
  have q0 := h3.old _ _ g0
  have q1 := h3.old _ _ g1
  have q2 := h3.old _ _ g2
  have a0 := h3.a1 0
  have a1 := h3.a1 1
  have a2 := h3.a1 2
  have a3 := h3.a1 3
  have a4 := h3.a1 4
  have z0 := h3.frz 0
  have z1 := h3.frz 1
  have z2 := h3.frz 2
  have z3 := h3.frz 3
  have z4 := h3.frz 4
  have b1 := h3.a2 1
  have b2 := h3.a2 2
  have b3 := h3.a2 3
  have d0 := h3.a3 0
  have d1 := h3.a3 1
  have d2 := h3.a3 2
  have d3 := h3.a3 3
  simp at a0 a1 a2 a3 a4 b1 b2 b3 d0 d1 d2 d3
  clear h3 g0 g1 g2 g3 c0 c1 c2 c3 p0 p1 p2 p3
  go_quiet (fail)
  go_upto_region 6 with fail
  go_region
  go_wp2
  generalize hW5 : World.setCell _ _ _ = W5
  obtain ⟨t, hblk⟩ := H3.out.blk
  have h5 : W5.heap[w.heap.size]? = some (.cells #[.int .i64 gap, .slice x.s x.n x.c, .int .i64 (((x.n : Int) + 63) / 64), .slice l.s l.n l.c, .slice m.s m.n m.c] t (0, 0)) := by
    rw [← hW5]
    exact five (W := W0.drewN (nq + 1)) hblk _ _ _ _ _
  have hB : Below w.heap.size w W5 := by
    rw [← hW5]
    exact (((((Below.drawn H3.out.below (nq + 1)).setCell (Nat.le_refl _) _).setCell (Nat.le_refl _) _).setCell (Nat.le_refl _) _).setCell (Nat.le_refl _) _).setCell (Nat.le_refl _) _
  have e0 : W5.cell? ⟨w.heap.size, 0, none⟩ = some (.int .i64 gap) := by simp [World.cell?, h5]
  have e1 : W5.cell? ⟨w.heap.size, 1, none⟩ = some (.slice x.s x.n x.c) := by simp [World.cell?, h5]
  have e2 : W5.cell? ⟨w.heap.size, 2, none⟩ = some (.int .i64 (((x.n : Int) + 63) / 64)) := by simp [World.cell?, h5]
  have e3 : W5.cell? ⟨w.heap.size, 3, none⟩ = some (.slice l.s l.n l.c) := by simp [World.cell?, h5]
  have e4 : W5.cell? ⟨w.heap.size, 4, none⟩ = some (.slice m.s m.n m.c) := by simp [World.cell?, h5]
  clear hW5 hblk h5
  refine bodyPost_ret (by simp [results, Try.results38, go_sem, e0, e1, e2, e3, e4]; try rfl) rfl ?_
  exact RunPost.intro' (runV_eq gap x l m) hB
end Go.Proofs.Qxb6601041a
