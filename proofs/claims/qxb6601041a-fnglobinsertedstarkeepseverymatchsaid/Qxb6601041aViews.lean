/-
  Seat b6601041a: SLICES AS THEY LIE IN MEMORY: a slice value kept closed (its address a variable), its elements by index; the index as a run equation.
-/
import Derived.Test.Qxb6601041aRows
import Derived.WalkKit
import Derived.WalkSpells
import Derived.WalkLawsBesides
import Derived.Deep.OwnRows
namespace Go.Proofs.Qxb6601041a
open Go.RowKit

theorem hid {p : Prop} (h : p) : Hid p := h
theorem ret_bool {a b : Bool} (h : a = b) : Ending.returned (.bool a) = .returned (.bool b) := by rw [h]

/-- A slice: its value '.slice s n c', and where its elements lie. -/
structure Sl where
  s : Option Addr
  n : Nat
  c : Nat
  b : Nat
  off : Nat

def Sl.val (x : Sl) : Value := .slice x.s x.n x.c

/-- The slice x lies in w and its element i is V i. -/
structure Sl.Has (x : Sl) (w : World) (V : Nat → Value) : Prop where
  row : ∀ i, i < x.n → x.s = some ⟨x.b, x.off, none⟩ ∧ w.cell? ⟨x.b, x.off + i, none⟩ = some (V i)
  len : x.n ≤ 9223372036854775807

theorem block_lt {w : World} {a : Addr} {v : Value} (h : w.cell? a = some v) : a.block < w.heap.size := by
  rcases Nat.lt_or_ge a.block w.heap.size with h1 | h1
  · exact h1
  · have : w.heap[a.block]? = none := by simp [h1]
    simp [World.cell?, this] at h

theorem Sl.Has.cell {x : Sl} {w : World} {V : Nat → Value} (h : x.Has w V) {i : Nat} (hi : i < x.n) : w.cell? ⟨x.b, x.off + i, none⟩ = some (V i) := (h.row i hi).2
theorem Sl.Has.blk {x : Sl} {w : World} {V : Nat → Value} (h : x.Has w V) {i : Nat} (hi : i < x.n) : x.b < w.heap.size := block_lt (h.cell hi)
theorem Sl.Has.below {x : Sl} {w w' : World} {V : Nat → Value} (h : x.Has w V) (hb : Below w.heap.size w w') : x.Has w' V :=
  ⟨fun i hi => ⟨(h.row i hi).1, by rw [hb.cell (p := ⟨x.b, x.off + i, none⟩) (h.blk hi)]; exact h.cell hi⟩, h.len⟩
theorem Sl.Has.drewN {x : Sl} {w : World} {V : Nat → Value} (h : x.Has w V) (q : Nat) : x.Has (w.drewN q) V := ⟨h.row, h.len⟩
/-- The block is as it was. -/
theorem Sl.Has.kept {x : Sl} {w w' : World} {V : Nat → Value} (h : x.Has w V) (hb : 0 < x.n → w'.heap[x.b]? = w.heap[x.b]?) : x.Has w' V :=
  ⟨fun i hi => ⟨(h.row i hi).1, by rw [World.cell?_of_block (w := w) (a := ⟨x.b, x.off + i, none⟩) (hb (by omega))]; exact h.cell hi⟩, h.len⟩
theorem Sl.Has.ext {x : Sl} {w : World} {V V' : Nat → Value} (h : x.Has w V) (e : ∀ i, i < x.n → V i = V' i) : x.Has w V' :=
  ⟨fun i hi => ⟨(h.row i hi).1, by rw [h.cell hi, e i hi]⟩, h.len⟩

theorem sizeOf21 (w : World) : (sizeOf 21).run Try.prog w = .ok 1 w := by kernel_rfl
theorem sizeOf4 (w : World) : (sizeOf 4).run Try.prog w = .ok 1 w := by kernel_rfl
theorem sizeOf65 (w : World) : (sizeOf 65).run Try.prog w = .ok 1 w := by kernel_rfl

theorem idx_any {x : Sl} {w : World} {V : Nat → Value} (h : x.Has w V) (t e : TypeId) (hu : Try.prog.underlying t = some (.slice e)) (hs : ∀ w, (sizeOf e).run Try.prog w = .ok 1 w) (k : IntKind) (i : Nat) (hi : i < x.n) (w' : World) :
    (Instr.indexAt t (.slice x.s x.n x.c) (.int k i)).run Try.prog w' = .ok (.pointer (some ⟨x.b, x.off + i, none⟩)) w' := by
  have hel : Try.prog.elem t = e := by simp [Program.elem, hu]
  rw [(h.row i hi).1, run_indexAt_slice (P := Try.prog) w' t ⟨x.b, x.off, none⟩ x.n x.c k i (by rw [hel]; exact hu)]
  rw [if_pos ⟨by omega, by omega⟩, hel, hs]
  simp [Result.andThen, Addr.add]

theorem idx22 {x : Sl} {w : World} {V : Nat → Value} (h : x.Has w V) (i : Nat) (hi : i < x.n) (w' : World) :
    (Instr.indexAt 22 (.slice x.s x.n x.c) (.int .i64 i)).run Try.prog w' = .ok (.pointer (some ⟨x.b, x.off + i, none⟩)) w' := idx_any h 22 21 Try.underlying22 sizeOf21 .i64 i hi w'
theorem idx23 {x : Sl} {w : World} {V : Nat → Value} (h : x.Has w V) (i : Nat) (hi : i < x.n) (w' : World) :
    (Instr.indexAt 23 (.slice x.s x.n x.c) (.int .i64 i)).run Try.prog w' = .ok (.pointer (some ⟨x.b, x.off + i, none⟩)) w' := idx_any h 23 4 Try.underlying23 sizeOf4 .i64 i hi w'
theorem idx45 {x : Sl} {w : World} {V : Nat → Value} (h : x.Has w V) (i : Nat) (hi : i < x.n) (w' : World) :
    (Instr.indexAt 45 (.slice x.s x.n x.c) (.int .i64 i)).run Try.prog w' = .ok (.pointer (some ⟨x.b, x.off + i, none⟩)) w' := idx_any h 45 65 Try.underlying45 sizeOf65 .i64 i hi w'

/-- A []rune, a []bool, a []uint64. -/
abbrev Runes (w : World) (x : Sl) (Z : Nat → Int) : Prop := x.Has w fun i => .int .i32 (Z i)
abbrev Bools (w : World) (x : Sl) (B : Nat → Bool) : Prop := x.Has w fun i => .bool (B i)
abbrev Words (w : World) (x : Sl) (S : Nat → Nat) : Prop := x.Has w fun i => .int .u64 (S i : Nat)
theorem Below.drawn {B : Nat} {w w' : World} (h : Below B w w') (q : Nat) : Below B w (w'.drewN q) := ⟨h.os, h.tape, h.output, h.size, h.block⟩
end Go.Proofs.Qxb6601041a
