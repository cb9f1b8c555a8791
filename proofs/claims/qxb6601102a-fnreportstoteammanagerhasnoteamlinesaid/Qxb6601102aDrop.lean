/-
  Place's notes: the plain list, and the state of the loops that write them.
-/
import Derived.Test.Qxb6601102aRnd
namespace Go.Proofs.Qxb6601102a
open Go.RowKit

def dropped : ByteArray := ⟨#[109, 101, 109, 98, 101, 114, 115, 104, 105, 112, 95, 100, 114, 111, 112, 112, 101, 100]⟩
/-- Entry x of team k names an agent that sits elsewhere. -/
def away (D : Dat) (k x : Nat) : Bool := dept D (D.Z k x).toNat != (k : Int)
/-- The entries noted: in team k, the first j; in the first k teams; both. -/
def dr (D : Dat) (k j : Nat) : List (Nat × Nat) := ((List.range j).filter fun x => away D k x).map fun x => (k, x)
def dl (D : Dat) (k : Nat) : List (Nat × Nat) := (List.range k).flatMap fun k' => dr D k' (D.nm k')
def dj (D : Dat) (k j : Nat) : List (Nat × Nat) := dl D k ++ dr D k j
def noteCells (D : Dat) (l : List (Nat × Nat)) : List Value := l.flatMap fun p => [.string (D.tf p.1), .string dropped, .string (D.slug (D.Z p.1 p.2).toNat)]

theorem dr_succ (D : Dat) (k j : Nat) : dr D k (j + 1) = dr D k j ++ (if away D k j then [(k, j)] else []) := by
  unfold dr
  rw [List.range_succ, List.filter_append, List.map_append]
  congr 1
  by_cases h : away D k j <;> simp [h]
theorem dr_len (D : Dat) (k j : Nat) : (dr D k j).length ≤ j := by
  unfold dr
  rw [List.length_map]
  have := List.length_filter_le (fun x => away D k x) (List.range j)
  simpa using this
theorem dl_succ (D : Dat) (k : Nat) : dl D (k + 1) = dl D k ++ dr D k (D.nm k) := by
  unfold dl
  rw [List.range_succ, List.flatMap_append]
  simp
theorem dl_len (D : Dat) (k : Nat) (h : ∀ x, x < k → D.nm x ≤ 1048576) : (dl D k).length ≤ k * 1048576 := by
  induction k with
  | zero => simp [dl]
  | succ k ih =>
    rw [dl_succ, List.length_append]
    have h1 := ih fun x hx => h x (by omega)
    have h2 := dr_len D k (D.nm k)
    have h3 := h k (by omega)
    omega
theorem dj_next (D : Dat) (k : Nat) : dj D k (D.nm k) = dj D (k + 1) 0 := by
  unfold dj
  rw [dl_succ]
  simp [dr]
theorem dj_end (D : Dat) (k : Nat) : dj D k 0 = dl D k := by simp [dj, dr]
theorem dj_len (D : Dat) (k j : Nat) (hk : k < 4096) (hj : j ≤ D.nm k) (h : ∀ x, x ≤ k → D.nm x ≤ 1048576) : (dj D k j).length ≤ 4294967296 := by
  unfold dj
  rw [List.length_append]
  have h1 := dl_len D k fun x hx => h x (by omega)
  have h2 := dr_len D k j
  have h3 := h k (Nat.le_refl _)
  have h4 : k * 1048576 ≤ 4095 * 1048576 := Nat.mul_le_mul_right _ (by omega)
  omega
theorem dj_take (D : Dat) (k j : Nat) (h : away D k j = true) : dj D k (j + 1) = dj D k j ++ [(k, j)] := by
  unfold dj; rw [dr_succ, if_pos h, List.append_assoc]
theorem dj_skip (D : Dat) (k j : Nat) (h : away D k j = false) : dj D k (j + 1) = dj D k j := by
  unfold dj; rw [dr_succ, if_neg (by simp [h]), List.append_nil]
theorem noteCells_append (D : Dat) (l : List (Nat × Nat)) (k j : Nat) : noteCells D (l ++ [(k, j)]) = noteCells D l ++ [.string (D.tf k), .string dropped, .string (D.slug (D.Z k j).toNat)] := by
  unfold noteCells
  rw [List.flatMap_append]
  simp

/-- The reader with the notes of l; since W4 nothing has turned but the reader's own block. -/
structure R5 (W4 : World) (rB : Nat) (rf : Nat → Value) (D : Dat) (l : List (Nat × Nat)) (s : Option Addr) (c : Nat) (wr : World) : Prop where
  rd : wr.rowIs rB 65 6 (setAt rf 4 (.slice s l.length c))
  own : wr.ownsRow W4.heap.size 43 3 (.slice s l.length c) l.length (noteCells D l)
  bel : W4.grownBy wr (some rB)
  lt : rB < W4.heap.size

theorem setAt_setAt (rf : Nat → Value) (i : Nat) (u v : Value) : setAt (setAt rf i u) i v = setAt rf i v := by
  funext j; unfold setAt; by_cases h : j = i <;> simp [h]

theorem R5.start {W4 : World} {rB : Nat} {rf : Nat → Value} (D : Dat) (h : W4.rowIs rB 65 6 rf) (h4 : rf 4 = .slice none 0 0) : R5 W4 rB rf D (dj D 0 0) none 0 W4 :=
  ⟨h.congr fun j _ => by
    show rf j = setAt rf 4 (.slice none 0 0) j
    unfold setAt
    by_cases e : j = 4
    · simp [e, h4]
    · simp [e], World.ownsRow_nil _ _ _ _, World.grownBy.refl _ _, h.lt⟩

theorem R5.drewN {W4 : World} {rB : Nat} {rf : Nat → Value} {D : Dat} {l : List (Nat × Nat)} {s : Option Addr} {c : Nat} {wr : World} (h : R5 W4 rB rf D l s c wr) (q : Nat) : R5 W4 rB rf D l s c (wr.drewN q) :=
  ⟨h.rd, h.own, ⟨h.bel.os, h.bel.tape, h.bel.output, h.bel.size, h.bel.block⟩, h.lt⟩

theorem R5.note {W4 : World} {rB : Nat} {rf : Nat → Value} {D : Dat} {k j : Nat} {s : Option Addr} {c : Nat} {wr : World} (h : R5 W4 rB rf D (dj D k j) s c wr) (haw : away D k j = true) (hl : (dj D k j).length ≤ 4294967296) (q : Nat) :
    Calls Try.prog 46 #[.pointer (some ⟨rB, 0, none⟩), .string (D.tf k), .string dropped, .string (D.slug (D.Z k j).toNat)] (wr.drewN q) fun e w' => e = .returned (.tuple #[]) ∧ ∃ s' c', R5 W4 rB rf D (dj D k (j + 1)) s' c' w' := by
  have hlt := h.lt
  have hbs := h.bel.size
  have hne : (Value.slice s (dj D k j).length c).ownBlock ≠ some rB := fun e => by have := (h.own.lt _ e).1; omega
  refine (note_any (wr.drewN q) W4.heap.size rB _ s (dj D k j).length c (noteCells D (dj D k j)) _ _ _ (h.drewN q).rd (by simp [setAt]) (h.drewN q).own hne hbs (by omega)).mono ?_
  rintro e w' ⟨s', c', rfl, hrd, hown, ht⟩
  refine ⟨rfl, s', c', ⟨?_, ?_, ⟨ht.os.trans h.bel.os, ht.tape.trans h.bel.tape, ht.output.trans h.bel.output, Nat.le_trans hbs ht.size, fun b hb hne2 => ?_⟩, hlt⟩⟩
  · rw [setAt_setAt] at hrd
    rw [dj_take D k j haw, List.length_append]
    exact hrd
  · rw [dj_take D k j haw, List.length_append, noteCells_append]
    exact hown
  · rw [ht.block b (by show b < wr.heap.size; omega) (fun e => hne2 (by rw [e])) (fun e => by have := (h.own.lt _ e).1; omega)]
    exact h.bel.block b hb hne2

theorem R5.skip {W4 : World} {rB : Nat} {rf : Nat → Value} {D : Dat} {k j : Nat} {s : Option Addr} {c : Nat} {wr : World} (h : R5 W4 rB rf D (dj D k j) s c wr) (haw : away D k j = false) : R5 W4 rB rf D (dj D k (j + 1)) s c wr := by
  rw [dj_skip D k j haw]; exact h
end Go.Proofs.Qxb6601102a
