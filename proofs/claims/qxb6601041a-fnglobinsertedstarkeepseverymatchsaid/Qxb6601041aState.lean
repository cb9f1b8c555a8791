/-
  Seat b6601041a: (*folded).state: words, all zero, in the value's scratch or in a new row.
-/
import Derived.Test.Qxb6601041aMask
import Derived.Lib.SliceRun
import Derived.Laws.IdiomCopy
namespace Go.Proofs.Qxb6601041a
open Go.RowKit

theorem zero65 (w : World) : (zeroValue 65).run Try.prog w = .ok (.int .u64 0) w := by kernel_rfl
theorem info65 : (Try.prog.info? 65).map (fun i => (i.zero, i.size, i.bytes)) = some (some (.int .u64 0), 1, 8) := by kernel_rfl

/-- The scratch sv of a folded value at fb: none, or a row of words of its own behind fb. -/
def Scr (w : World) (fb : Nat) (sv : Value) : Prop :=
  sv = .slice none 0 0 ∨ ∃ sb sn sc cur, sv = .slice (some ⟨sb, 0, none⟩) sn sc ∧ fb < sb ∧ w.heap[sb]? = some (.cells cur 65 (0, 0)) ∧ cur.size = sc ∧ sn ≤ sc ∧ sc ≤ 1048576

/-- Behind state: sb's row begins with wd zeros; the folded value holds it; all else is as it was. -/
structure StateW (w : World) (fb : Nat) (xv yv sv : Value) (wd sb sc : Nat) (w' : World) : Prop where
  fold : w'.heap[fb]? = some (.cells #[xv, yv, .slice (some ⟨sb, 0, none⟩) wd sc] 52 (0, 0))
  lt : fb < sb
  row : ∃ cur, w'.heap[sb]? = some (.cells cur 65 (0, 0)) ∧ cur.size = sc
  le : wd ≤ sc
  big : sc ≤ 1048576
  zero : ∀ j, j < wd → w'.cell? ⟨sb, j, none⟩ = some (.int .u64 0)
  os : w'.os = w.os
  tape : w'.tape = w.tape
  output : w'.output = w.output
  size : w.heap.size ≤ w'.heap.size
  new : sv.ownBlock = some sb ∨ w.heap.size ≤ sb
  block : ∀ k, k < w.heap.size → k ≠ fb → sv.ownBlock ≠ some k → w'.heap[k]? = w.heap[k]?

def StateP (w : World) (fb : Nat) (xv yv sv : Value) (wd : Nat) (e : Ending) (w' : World) : Prop :=
  ∃ sb sc, e = .returned (.slice (some ⟨sb, 0, none⟩) wd sc) ∧ StateW w fb xv yv sv wd sb sc w'

/-- The world before the words are cleared. -/
structure Pre (w : World) (fb : Nat) (xv yv sv : Value) (wd sb sc : Nat) (w' : World) : Prop where
  fold : w'.heap[fb]? = some (.cells #[xv, yv, .slice (some ⟨sb, 0, none⟩) wd sc] 52 (0, 0))
  lt : fb < sb
  row : ∃ cur, w'.heap[sb]? = some (.cells cur 65 (0, 0)) ∧ cur.size = sc
  le : wd ≤ sc
  big : sc ≤ 1048576
  os : w'.os = w.os
  tape : w'.tape = w.tape
  output : w'.output = w.output
  size : w.heap.size ≤ w'.heap.size
  new : sv.ownBlock = some sb ∨ w.heap.size ≤ sb
  block : ∀ k, k < w.heap.size → k ≠ fb → sv.ownBlock ≠ some k → w'.heap[k]? = w.heap[k]?

theorem pre_new {w : World} {fb : Nat} {xv yv sv : Value} {wd : Nat} (hf : w.heap[fb]? = some (.cells #[xv, yv, sv] 52 (0, 0))) (hb : wd ≤ 1048576) (z : Value) :
    Pre w fb xv yv sv wd w.heap.size wd (((w.setCell ⟨fb, 2, none⟩ (.slice (some ⟨w.heap.size, 0, none⟩) wd wd)).setCell ⟨fb, 2, none⟩ (.slice (some ⟨w.heap.size, 0, none⟩) wd wd)).alloc (.cells (madeCells #[z] wd) 65)) := by
  have hfl : fb < w.heap.size := (Array.getElem?_eq_some_iff.1 hf).1
  refine ⟨?_, hfl, ⟨madeCells #[z] wd, ?_, size_madeCells _ _⟩, Nat.le_refl _, hb, rfl, rfl, rfl, by simp, Or.inr (Nat.le_refl _), fun k hk hne _ => ?_⟩
  · rw [Below.heap_alloc _ _ _ (by simpa using hfl), heap_setCell_same _ _ _ _ _ _ (heap_setCell_same _ _ _ _ _ _ hf)]
    rfl
  · have := heap_alloc_new ((w.setCell ⟨fb, 2, none⟩ (.slice (some ⟨w.heap.size, 0, none⟩) wd wd)).setCell ⟨fb, 2, none⟩ (.slice (some ⟨w.heap.size, 0, none⟩) wd wd)) (.cells (madeCells #[z] wd) 65)
    simpa using this
  · rw [Below.heap_alloc _ _ _ (by simpa using hk), heap_setCell_other _ _ _ _ hne, heap_setCell_other _ _ _ _ hne]

theorem pre_old {w : World} {fb : Nat} {xv yv : Value} {wd sb sn sc : Nat} {cur : Array Value} (hf : w.heap[fb]? = some (.cells #[xv, yv, .slice (some ⟨sb, 0, none⟩) sn sc] 52 (0, 0))) (hlt : fb < sb) (hr : w.heap[sb]? = some (.cells cur 65 (0, 0))) (hcs : cur.size = sc) (hle : wd ≤ sc) (hb : sc ≤ 1048576) :
    Pre w fb xv yv (.slice (some ⟨sb, 0, none⟩) sn sc) wd sb sc (w.setCell ⟨fb, 2, none⟩ (.slice (some ⟨sb, 0, none⟩) wd sc)) := by
  refine ⟨?_, hlt, ⟨cur, ?_, hcs⟩, hle, hb, rfl, rfl, rfl, by simp, Or.inl rfl, fun k hk hne _ => heap_setCell_other _ _ _ _ hne⟩
  · rw [heap_setCell_same _ _ _ _ _ _ hf]
    rfl
  · rw [heap_setCell_other _ _ _ _ (by simp; omega)]
    exact hr

theorem heap_setCells_other {b : Nat} (vs : List Value) : ∀ (o : Nat) (w : World) (k : Nat), k ≠ b → (w.setCells b o vs).heap[k]? = w.heap[k]? := by
  induction vs with
  | nil => intro o w k h; rfl
  | cons v vs ih =>
    intro o w k h
    show ((w.setCell ⟨b, o, none⟩ v).setCells b (o + 1) vs).heap[k]? = _
    rw [ih _ _ _ h, heap_setCell_other _ _ _ _ h]
theorem heap_setCells_same {b : Nat} {e : TypeId} (vs : List Value) : ∀ (o : Nat) (w : World) (cur : Array Value), w.heap[b]? = some (.cells cur e (0, 0)) → ∃ cur', (w.setCells b o vs).heap[b]? = some (.cells cur' e (0, 0)) ∧ cur'.size = cur.size := by
  induction vs with
  | nil => intro o w cur h; exact ⟨cur, h, rfl⟩
  | cons v vs ih =>
    intro o w cur h
    show ∃ cur', ((w.setCell ⟨b, o, none⟩ v).setCells b (o + 1) vs).heap[b]? = some (.cells cur' e (0, 0)) ∧ _
    obtain ⟨cur', h1, h2⟩ := ih (o + 1) _ _ (heap_setCell_same w b o cur e v h)
    exact ⟨cur', h1, by rw [h2]; simp⟩
theorem setCells_rest {b : Nat} (vs : List Value) : ∀ (o : Nat) (w : World), (w.setCells b o vs).os = w.os ∧ (w.setCells b o vs).tape = w.tape ∧ (w.setCells b o vs).output = w.output ∧ (w.setCells b o vs).heap.size = w.heap.size := by
  induction vs with
  | nil => intro o w; exact ⟨rfl, rfl, rfl, rfl⟩
  | cons v vs ih =>
    intro o w
    obtain ⟨h1, h2, h3, h4⟩ := ih (o + 1) (w.setCell ⟨b, o, none⟩ v)
    exact ⟨h1, h2, h3, h4.trans (by simp)⟩

theorem Pre.cells {w : World} {fb : Nat} {xv yv sv : Value} {wd sb sc : Nat} {w' : World} (h : Pre w fb xv yv sv wd sb sc w') (j : Nat) (hj : j < wd) : (w'.cell? ⟨sb, 0 + j, none⟩).isSome = true ∧ w'.frozen? ⟨sb, 0 + j, none⟩ = false := by
  obtain ⟨cur, h1, h2⟩ := h.row
  have h3 := h.le
  have h4 : j < cur.size := by omega
  simp [World.cell?, World.frozen?, h1, h4]

theorem Pre.post {w : World} {fb : Nat} {xv yv sv : Value} {wd sb sc : Nat} {w' : World} (h : Pre w fb xv yv sv wd sb sc w') : StateW w fb xv yv sv wd sb sc (w'.setCells sb 0 (List.replicate wd (.int .u64 0))) := by
  obtain ⟨cur, h1, h2⟩ := h.row
  obtain ⟨cur', h3, h4⟩ := heap_setCells_same (List.replicate wd (Value.int .u64 0)) 0 w' cur h1
  obtain ⟨r1, r2, r3, r4⟩ := setCells_rest (b := sb) (List.replicate wd (Value.int .u64 0)) 0 w'
  have hlt := h.lt
  refine ⟨?_, hlt, ⟨cur', h3, by omega⟩, h.le, h.big, fun j hj => ?_, r1.trans h.os, r2.trans h.tape, r3.trans h.output, by rw [r4]; exact h.size, h.new, fun k hk h5 h6 => ?_⟩
  · rw [heap_setCells_other _ _ _ _ (by omega)]
    exact h.fold
  · have := World.cell?_setCells_in sb (List.replicate wd (Value.int .u64 0)) 0 w' (fun j hj => (h.cells j (by simpa using hj)).1) j (by simpa using hj)
    simpa using this
  · by_cases hks : k = sb
    · subst hks
      rcases h.new with h7 | h7
      · exact absurd h7 h6
      · omega
    · rw [heap_setCells_other _ _ _ _ hks]
      exact h.block k hk h5 h6

set_option maxRecDepth 100000 in
set_option maxHeartbeats 1000000 in
theorem state_any {w : World} {fb : Nat} {xv yv sv : Value} (hf : w.heap[fb]? = some (.cells #[xv, yv, sv] 52 (0, 0))) (hs : Scr w fb sv) (wd : Nat) (h0 : 0 < wd) (hb : wd ≤ 1048576) :
    Calls Try.prog 46 #[.pointer (some ⟨fb, 0, none⟩), .int .i64 wd] w (StateP w fb xv yv sv wd) := by
  have hfl : fb < w.heap.size := (Array.getElem?_eq_some_iff.1 hf).1
  have c2 : w.cell? ⟨fb, 2, none⟩ = some sv := by simp [World.cell?, hf]
  have z2 : w.frozen? ⟨fb, 2, none⟩ = false := by simp [World.frozen?, hf]
  have HF := hid hf
  clear hf
  rcases hs with rfl | ⟨sb, sn, sc, cur, rfl, hlt, hrow, hcs, hsn, hsc⟩
  · have hmk := run_make_row' (P := Try.prog) 45 65 (.int .u64 0) 8 Try.underlying45 info65 rfl .i64 .i64 wd (by omega) (by omega)
    have hP : Pre w fb xv yv (.slice none 0 0) wd w.heap.size wd (((w.setCell ⟨fb, 2, none⟩ (.slice (some ⟨w.heap.size, 0, none⟩) wd wd)).setCell ⟨fb, 2, none⟩ (.slice (some ⟨w.heap.size, 0, none⟩) wd wd)).alloc (.cells (madeCells #[.int .u64 0] wd) 65)) := pre_new HF.out hb _
    have hcl : ∀ ty, (Builtin.clear_ #[45] ty #[.slice (some ⟨w.heap.size, 0, none⟩) wd wd]).run Try.prog (((w.setCell ⟨fb, 2, none⟩ (.slice (some ⟨w.heap.size, 0, none⟩) wd wd)).setCell ⟨fb, 2, none⟩ (.slice (some ⟨w.heap.size, 0, none⟩) wd wd)).alloc (.cells (madeCells #[.int .u64 0] wd) 65)) = .ok (.tuple #[]) ((((w.setCell ⟨fb, 2, none⟩ (.slice (some ⟨w.heap.size, 0, none⟩) wd wd)).setCell ⟨fb, 2, none⟩ (.slice (some ⟨w.heap.size, 0, none⟩) wd wd)).alloc (.cells (madeCells #[.int .u64 0] wd) 65)).setCells w.heap.size 0 (List.replicate wd (.int .u64 0))) :=
      fun ty => Lib.run_clear_slice (((w.setCell ⟨fb, 2, none⟩ (.slice (some ⟨w.heap.size, 0, none⟩) wd wd)).setCell ⟨fb, 2, none⟩ (.slice (some ⟨w.heap.size, 0, none⟩) wd wd)).alloc (.cells (madeCells #[.int .u64 0] wd) 65)) 45 65 ty (.int .u64 0) Try.underlying45 zero65 rfl rfl w.heap.size 0 wd wd h0 (fun j hj => (hP.cells j hj).1) (fun j hj => (hP.cells j hj).2)
    have HQ := hid hP.post
    have hld : ((((w.setCell ⟨fb, 2, none⟩ (.slice (some ⟨w.heap.size, 0, none⟩) wd wd)).setCell ⟨fb, 2, none⟩ (.slice (some ⟨w.heap.size, 0, none⟩) wd wd)).alloc (.cells (madeCells #[.int .u64 0] wd) 65)).setCells w.heap.size 0 (List.replicate wd (.int .u64 0))).cell? ⟨fb, 2, none⟩ = some (.slice (some ⟨w.heap.size, 0, none⟩) wd wd) := by
      simp only [World.cell?, HQ.out.fold]
      rfl
    clear hP
    go_enter Try.func46, Try.ntmps46
    go_wp2
    go_ret
    exact ⟨_, _, rfl, HQ.out⟩
  · have HR := hid hrow
    clear hrow
    by_cases hc : sc < wd
    · have hmk := run_make_row' (P := Try.prog) 45 65 (.int .u64 0) 8 Try.underlying45 info65 rfl .i64 .i64 wd (by omega) (by omega)
      have hP : Pre w fb xv yv (.slice (some ⟨sb, 0, none⟩) sn sc) wd w.heap.size wd (((w.setCell ⟨fb, 2, none⟩ (.slice (some ⟨w.heap.size, 0, none⟩) wd wd)).setCell ⟨fb, 2, none⟩ (.slice (some ⟨w.heap.size, 0, none⟩) wd wd)).alloc (.cells (madeCells #[.int .u64 0] wd) 65)) := pre_new HF.out hb _
      have hcl : ∀ ty, (Builtin.clear_ #[45] ty #[.slice (some ⟨w.heap.size, 0, none⟩) wd wd]).run Try.prog (((w.setCell ⟨fb, 2, none⟩ (.slice (some ⟨w.heap.size, 0, none⟩) wd wd)).setCell ⟨fb, 2, none⟩ (.slice (some ⟨w.heap.size, 0, none⟩) wd wd)).alloc (.cells (madeCells #[.int .u64 0] wd) 65)) = .ok (.tuple #[]) ((((w.setCell ⟨fb, 2, none⟩ (.slice (some ⟨w.heap.size, 0, none⟩) wd wd)).setCell ⟨fb, 2, none⟩ (.slice (some ⟨w.heap.size, 0, none⟩) wd wd)).alloc (.cells (madeCells #[.int .u64 0] wd) 65)).setCells w.heap.size 0 (List.replicate wd (.int .u64 0))) :=
        fun ty => Lib.run_clear_slice (((w.setCell ⟨fb, 2, none⟩ (.slice (some ⟨w.heap.size, 0, none⟩) wd wd)).setCell ⟨fb, 2, none⟩ (.slice (some ⟨w.heap.size, 0, none⟩) wd wd)).alloc (.cells (madeCells #[.int .u64 0] wd) 65)) 45 65 ty (.int .u64 0) Try.underlying45 zero65 rfl rfl w.heap.size 0 wd wd h0 (fun j hj => (hP.cells j hj).1) (fun j hj => (hP.cells j hj).2)
      have HQ := hid hP.post
      have hld : ((((w.setCell ⟨fb, 2, none⟩ (.slice (some ⟨w.heap.size, 0, none⟩) wd wd)).setCell ⟨fb, 2, none⟩ (.slice (some ⟨w.heap.size, 0, none⟩) wd wd)).alloc (.cells (madeCells #[.int .u64 0] wd) 65)).setCells w.heap.size 0 (List.replicate wd (.int .u64 0))).cell? ⟨fb, 2, none⟩ = some (.slice (some ⟨w.heap.size, 0, none⟩) wd wd) := by
        simp only [World.cell?, HQ.out.fold]
        rfl
      clear hP
      go_enter Try.func46, Try.ntmps46
      go_wp2
      go_ret
      exact ⟨_, _, rfl, HQ.out⟩
    · have hP : Pre w fb xv yv (.slice (some ⟨sb, 0, none⟩) sn sc) wd sb sc (w.setCell ⟨fb, 2, none⟩ (.slice (some ⟨sb, 0, none⟩) wd sc)) := pre_old HF.out hlt HR.out hcs (by omega) hsc
      have hcl : ∀ ty, (Builtin.clear_ #[45] ty #[.slice (some ⟨sb, 0, none⟩) wd sc]).run Try.prog (w.setCell ⟨fb, 2, none⟩ (.slice (some ⟨sb, 0, none⟩) wd sc)) = .ok (.tuple #[]) ((w.setCell ⟨fb, 2, none⟩ (.slice (some ⟨sb, 0, none⟩) wd sc)).setCells sb 0 (List.replicate wd (.int .u64 0))) :=
        fun ty => Lib.run_clear_slice (w.setCell ⟨fb, 2, none⟩ (.slice (some ⟨sb, 0, none⟩) wd sc)) 45 65 ty (.int .u64 0) Try.underlying45 zero65 rfl rfl sb 0 wd sc h0 (fun j hj => (hP.cells j hj).1) (fun j hj => (hP.cells j hj).2)
      have HQ := hid hP.post
      have hld : ((w.setCell ⟨fb, 2, none⟩ (.slice (some ⟨sb, 0, none⟩) wd sc)).setCells sb 0 (List.replicate wd (.int .u64 0))).cell? ⟨fb, 2, none⟩ = some (.slice (some ⟨sb, 0, none⟩) wd sc) := by
        simp only [World.cell?, HQ.out.fold]
        rfl
      clear hP
      go_enter Try.func46, Try.ntmps46
      go_wp2
      go_ret
      exact ⟨_, _, rfl, HQ.out⟩
end Go.Proofs.Qxb6601041a
