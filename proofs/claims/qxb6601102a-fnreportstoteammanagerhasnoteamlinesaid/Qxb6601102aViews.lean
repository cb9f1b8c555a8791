/-
  Seat b6601102a: SLICES AS THEY LIE IN MEMORY: a slice value kept closed (its address a variable), its elements by index; the index as a run equation.
-/
import Derived.Test.Qxb6601102aRows
import Derived.WalkKit
import Derived.WalkSpells
import Derived.WalkLawsBesides
import Derived.Deep.OwnRows
namespace Go.Proofs.Qxb6601102a
open Go.RowKit

theorem hid {p : Prop} (h : p) : Hid p := h
theorem ret_bool {a b : Bool} (h : a = b) : Ending.returned (.bool a) = .returned (.bool b) := by rw [h]

/-- A slice: its value '.slice s n c', and where its elements lie. -/
structure Sl where
  s : Option Addr
  n : Nat
  c : Nat
  b : Nat
  off : Nat

/-- The slice x lies in w and its element i is V i. -/
structure Sl.Has (x : Sl) (w : World) (V : Nat → Value) : Prop where
  row : ∀ i, i < x.n → x.s = some ⟨x.b, x.off, none⟩ ∧ w.cell? ⟨x.b, x.off + i, none⟩ = some (V i)
  len : x.n ≤ 9223372036854775807

theorem block_lt {w : World} {a : Addr} {v : Value} (h : w.cell? a = some v) : a.block < w.heap.size := by
  rcases Nat.lt_or_ge a.block w.heap.size with h1 | h1
  · exact h1
  · have : w.heap[a.block]? = none := by simp [h1]
    simp [World.cell?, this] at h

theorem Sl.Has.cell {x : Sl} {w : World} {V : Nat → Value} (h : x.Has w V) {i : Nat} (hi : i < x.n) : w.cell? ⟨x.b, x.off + i, none⟩ = some (V i) := (h.row i hi).2
theorem Sl.Has.blk {x : Sl} {w : World} {V : Nat → Value} (h : x.Has w V) {i : Nat} (hi : i < x.n) : x.b < w.heap.size := block_lt (h.cell hi)
theorem Sl.Has.below {x : Sl} {w w' : World} {V : Nat → Value} (h : x.Has w V) (hb : Below w.heap.size w w') : x.Has w' V :=
  ⟨fun i hi => ⟨(h.row i hi).1, by rw [hb.cell (p := ⟨x.b, x.off + i, none⟩) (h.blk hi)]; exact h.cell hi⟩, h.len⟩
theorem Sl.Has.drewN {x : Sl} {w : World} {V : Nat → Value} (h : x.Has w V) (q : Nat) : x.Has (w.drewN q) V := ⟨h.row, h.len⟩

theorem sizeOf9 (w : World) : (sizeOf 9).run Try.prog w = .ok 1 w := by kernel_rfl
theorem sizeOf4 (w : World) : (sizeOf 4).run Try.prog w = .ok 1 w := by kernel_rfl
theorem sizeOf3 (w : World) : (sizeOf 3).run Try.prog w = .ok 1 w := by kernel_rfl
theorem sizeOf24 (w : World) : (sizeOf 24).run Try.prog w = .ok 1 w := by kernel_rfl
theorem sizeOf86 (w : World) : (sizeOf 86).run Try.prog w = .ok 1 w := by kernel_rfl
theorem sizeOf79 (w : World) : (sizeOf 79).run Try.prog w = .ok 1 w := by kernel_rfl

theorem idx_any {x : Sl} {w : World} {V : Nat → Value} (h : x.Has w V) (t e : TypeId) (hu : Try.prog.underlying t = some (.slice e)) (hs : ∀ w, (sizeOf e).run Try.prog w = .ok 1 w) (k : IntKind) (i : Nat) (hi : i < x.n) (w' : World) :
    (Instr.indexAt t (.slice x.s x.n x.c) (.int k i)).run Try.prog w' = .ok (.pointer (some ⟨x.b, x.off + i, none⟩)) w' := by
  have hel : Try.prog.elem t = e := by simp [Program.elem, hu]
  rw [(h.row i hi).1, run_indexAt_slice (P := Try.prog) w' t ⟨x.b, x.off, none⟩ x.n x.c k i (by rw [hel]; exact hu)]
  rw [if_pos ⟨by omega, by omega⟩, hel, hs]
  simp [Result.andThen, Addr.add]

theorem idx22 {x : Sl} {w : World} {V : Nat → Value} (h : x.Has w V) (i : Nat) (hi : i < x.n) (w' : World) :
    (Instr.indexAt 22 (.slice x.s x.n x.c) (.int .i64 i)).run Try.prog w' = .ok (.pointer (some ⟨x.b, x.off + i, none⟩)) w' := idx_any h 22 9 Try.underlying22 sizeOf9 .i64 i hi w'
theorem idx23 {x : Sl} {w : World} {V : Nat → Value} (h : x.Has w V) (i : Nat) (hi : i < x.n) (w' : World) :
    (Instr.indexAt 23 (.slice x.s x.n x.c) (.int .i64 i)).run Try.prog w' = .ok (.pointer (some ⟨x.b, x.off + i, none⟩)) w' := idx_any h 23 4 Try.underlying23 sizeOf4 .i64 i hi w'
theorem idx24 {x : Sl} {w : World} {V : Nat → Value} (h : x.Has w V) (i : Nat) (hi : i < x.n) (w' : World) :
    (Instr.indexAt 24 (.slice x.s x.n x.c) (.int .i64 i)).run Try.prog w' = .ok (.pointer (some ⟨x.b, x.off + i, none⟩)) w' := idx_any h 24 3 Try.underlying24 sizeOf3 .i64 i hi w'
theorem idx25 {x : Sl} {w : World} {V : Nat → Value} (h : x.Has w V) (i : Nat) (hi : i < x.n) (w' : World) :
    (Instr.indexAt 25 (.slice x.s x.n x.c) (.int .i64 i)).run Try.prog w' = .ok (.pointer (some ⟨x.b, x.off + i, none⟩)) w' := idx_any h 25 24 Try.underlying25 sizeOf24 .i64 i hi w'
theorem idx75 {x : Sl} {w : World} {V : Nat → Value} (h : x.Has w V) (i : Nat) (hi : i < x.n) (w' : World) :
    (Instr.indexAt 75 (.slice x.s x.n x.c) (.int .i64 i)).run Try.prog w' = .ok (.pointer (some ⟨x.b, x.off + i, none⟩)) w' := idx_any h 75 86 Try.underlying75 sizeOf86 .i64 i hi w'
theorem idx76 {x : Sl} {w : World} {V : Nat → Value} (h : x.Has w V) (i : Nat) (hi : i < x.n) (w' : World) :
    (Instr.indexAt 76 (.slice x.s x.n x.c) (.int .i64 i)).run Try.prog w' = .ok (.pointer (some ⟨x.b, x.off + i, none⟩)) w' := idx_any h 76 79 Try.underlying76 sizeOf79 .i64 i hi w'

/-- A []string, a []bool, a []int, a [][]int. -/
structure Strs (w : World) (x : Sl) (S : Nat → ByteArray) : Prop where
  has : x.Has w fun i => .string (S i)
  size : ∀ i, i < x.n → (S i).size ≤ 9223372036854775807
structure Bools (w : World) (x : Sl) (B : Nat → Bool) : Prop where
  has : x.Has w fun i => .bool (B i)
structure Ints (w : World) (x : Sl) (Z : Nat → Int) : Prop where
  has : x.Has w fun i => .int .i64 (Z i)
  bd : ∀ i, i < x.n → -9223372036854775808 ≤ Z i ∧ Z i ≤ 9223372036854775807
structure Intss (w : World) (x : Sl) (R : Nat → Sl) (Z : Nat → Nat → Int) : Prop where
  has : x.Has w fun i => .slice (R i).s (R i).n (R i).c
  rows : ∀ i, i < x.n → Ints w (R i) (Z i)

theorem Strs.below {w w' : World} {x : Sl} {S : Nat → ByteArray} (h : Strs w x S) (hb : Below w.heap.size w w') : Strs w' x S := ⟨h.has.below hb, h.size⟩
theorem Bools.below {w w' : World} {x : Sl} {S : Nat → Bool} (h : Bools w x S) (hb : Below w.heap.size w w') : Bools w' x S := ⟨h.has.below hb⟩
theorem Ints.below {w w' : World} {x : Sl} {S : Nat → Int} (h : Ints w x S) (hb : Below w.heap.size w w') : Ints w' x S := ⟨h.has.below hb, h.bd⟩
theorem Intss.below {w w' : World} {x : Sl} {R : Nat → Sl} {S : Nat → Nat → Int} (h : Intss w x R S) (hb : Below w.heap.size w w') : Intss w' x R S := ⟨h.has.below hb, fun i hi => (h.rows i hi).below hb⟩
theorem Strs.drewN {w : World} {x : Sl} {S : Nat → ByteArray} (h : Strs w x S) (q : Nat) : Strs (w.drewN q) x S := ⟨h.has.drewN q, h.size⟩
theorem Bools.drewN {w : World} {x : Sl} {S : Nat → Bool} (h : Bools w x S) (q : Nat) : Bools (w.drewN q) x S := ⟨h.has.drewN q⟩
theorem Ints.drewN {w : World} {x : Sl} {S : Nat → Int} (h : Ints w x S) (q : Nat) : Ints (w.drewN q) x S := ⟨h.has.drewN q, h.bd⟩
theorem Intss.drewN {w : World} {x : Sl} {R : Nat → Sl} {S : Nat → Nat → Int} (h : Intss w x R S) (q : Nat) : Intss (w.drewN q) x R S := ⟨h.has.drewN q, fun i hi => (h.rows i hi).drewN q⟩
theorem Below.drawn {B : Nat} {w w' : World} (h : Below B w w') (q : Nat) : Below B w (w'.drewN q) := ⟨h.os, h.tape, h.output, h.size, h.block⟩
end Go.Proofs.Qxb6601102a
