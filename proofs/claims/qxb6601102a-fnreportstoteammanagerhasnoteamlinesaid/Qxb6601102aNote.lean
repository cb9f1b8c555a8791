/-
  THE WALKS, J: (*reader).note: a finding more in the reader's notes.
-/
import Derived.Test.Qxb6601102aDel
namespace Go.Proofs.Qxb6601102a
open Go.RowKit

theorem info43 : (Try.prog.info? 43).map (fun i => (i.zero, i.size, i.bytes)) = some (some (.agg #[.string ByteArray.empty, .string ByteArray.empty, .string ByteArray.empty]), 3, 48) := by kernel_rfl

/-- Nothing has turned but the block rB, the row v's own block, and what is new. -/
structure Turned (w w' : World) (rB : Nat) (own : Option Nat) : Prop where
  os : w'.os = w.os
  tape : w'.tape = w.tape
  output : w'.output = w.output
  size : w.heap.size ≤ w'.heap.size
  block : ∀ b, b < w.heap.size → b ≠ rB → own ≠ some b → w'.heap[b]? = w.heap[b]?

def setAt (f : Nat → Value) (i : Nat) (v : Value) : Nat → Value := fun j => if j = i then v else f j

def NoteP (w : World) (base rB : Nat) (rf : Nat → Value) (s : Option Addr) (n c : Nat) (xs : List Value) (a b d : ByteArray) (e : Ending) (w' : World) : Prop :=
  ∃ s' c', e = .returned (.tuple #[]) ∧ w'.rowIs rB 65 6 (setAt rf 4 (.slice s' (n + 1) c')) ∧ w'.ownsRow base 43 3 (.slice s' (n + 1) c') (n + 1) (xs ++ [.string a, .string b, .string d]) ∧ Turned w w' rB (Value.slice s n c).ownBlock

theorem note_done {w w2 : World} {base rB : Nat} {rf : Nat → Value} {s : Option Addr} {n c : Nat} {xs : List Value} {a b d : ByteArray} {s' : Option Addr} {c' : Nat} {o : Obj}
    (hr : w.rowIs rB 65 6 rf) (hne : (Value.slice s n c).ownBlock ≠ some rB) (hown : w2.ownsRow base 43 3 (.slice s' (n + 1) c') (n + 1) (xs ++ [.string a, .string b, .string d])) (hg : (w.alloc o).grownBy w2 (Value.slice s n c).ownBlock) (hnew : OldOrNew (w.alloc o) (.slice s n c) (.slice s' (n + 1) c')) :
    NoteP w base rB rf s n c xs a b d (.returned (.tuple #[])) (w2.setCell ⟨rB, 4, none⟩ (.slice s' (n + 1) c')) := by
  have hlt := hr.lt
  have hset : w2.grownBy (w2.setCell ⟨rB, 4, none⟩ (.slice s' (n + 1) c')) (some rB) := grownBy_setCell w2 ⟨rB, 4, none⟩ _
  have hgs := hg.size
  rw [World.size_alloc] at hgs
  have h2 : w2.rowIs rB 65 6 rf := (hr.alloc o).of_block (hg.block _ (by simp; omega) (fun e => hne e.symm))
  refine ⟨s', c', rfl, h2.set 4 _, hown.kept hset (Or.inr (hnew.ne hne (by simp; omega))), ⟨hset.os.trans hg.os, hset.tape.trans hg.tape, hset.output.trans hg.output, by have := hset.size; omega, fun k h1 h3 h4 => ?_⟩⟩
  rw [hset.block k (by omega) (fun e => h3 (Option.some.inj e)), hg.block k (by simp; omega) (fun e => h4 e.symm)]
  exact Below.heap_alloc _ _ _ h1

set_option maxRecDepth 100000 in
set_option maxHeartbeats 1000000 in
theorem note_any (w : World) (base rB : Nat) (rf : Nat → Value) (s : Option Addr) (n c : Nat) (xs : List Value) (a b d : ByteArray) (hr : w.rowIs rB 65 6 rf) (h4 : rf 4 = .slice s n c) (hown : w.ownsRow base 43 3 (.slice s n c) n xs) (hne : (Value.slice s n c).ownBlock ≠ some rB) (hbase : base ≤ w.heap.size) (hn : n ≤ 68719476736) :
    Calls Try.prog 46 #[.pointer (some ⟨rB, 0, none⟩), .string a, .string b, .string d] w (NoteP w base rB rf s n c xs a b d) := by
  obtain ⟨i0, hi, hz0, hz1, hz2⟩ := info_parts info43
  have hc4 : w.cell? ⟨rB, 4, none⟩ = some (.slice s n c) := by rw [hr.cell (i := 4) (by omega), h4]
  have hf4 := hr.frozen 4
  have hlt := hr.lt
  have HR := hid hr
  have HO := hid hown
  have HN := hid hne
  clear hr h4 hown hne
  go_enter Try.func46, Try.ntmps46
  go_wp2_with (at_builtin; refine wpList_append_new _ rfl (.tmp 13) (.tmp 18) 36 rfl base 43 i0 (.agg #[.string ByteArray.empty, .string ByteArray.empty, .string ByteArray.empty]) 3 48 Try.underlying36 hi hz0 hz1 hz2 rfl (by decide) (.slice s n c) n xs rfl ?po (some ⟨w.heap.size, 0, none⟩) ⟨w.heap.size, 0, none⟩ 1 1 [.string a, .string b, .string d] rfl rfl rfl ?p1 ?p2 ?p3 ?p4 ?p5 ?_)
  case po => exact HO.out.alloc _
  case p1 =>
    intro j u hj
    match j, hj with
    | 0, hj => simp at hj; subst hj; simp [Addr.add]
    | 1, hj => simp at hj; subst hj; simp [Addr.add]
    | 2, hj => simp at hj; subst hj; simp [Addr.add]
  case p2 =>
    intro u hu
    simp at hu
    rcases hu with rfl | rfl | rfl <;> rfl
  case p3 => unfold maxLen; omega
  case p4 => omega
  case p5 => simp; omega
  intro s' c' w2 hown hg hnew
  have h2 : w2.rowIs rB 65 6 rf := (HR.out.alloc _).of_block (hg.block _ (by simp; omega) (fun e => HN.out e.symm))
  have hc2 := h2.cell (i := 4) (by omega)
  have hf2 := h2.frozen 4
  have HD := hid (note_done HR.out HN.out hown hg hnew)
  clear hown hg hnew h2 hc4
  generalize rf 4 = old at hc2
  go_wp2
  go_end0
  exact HD.out
end Go.Proofs.Qxb6601102a
