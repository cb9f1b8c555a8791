/-
  Place's departments: the plain function, and the state of the loop that fills them.
-/
import Derived.Test.Qxb6601102aTeams
namespace Go.Proofs.Qxb6601102a
open Go.RowKit

def zl (l : List Nat) (j : Nat) : Nat := l.getD j 0
theorem range_zl (l : List Nat) : (List.range l.length).map (zl l) = l := by
  apply List.ext_getElem
  · simp
  · intro i h1 h2
    simp [zl, h2]
theorem keep_zl (p : Nat → Bool) (l : List Nat) : keep p (zl l) l.length = l.filter fun k => !p k := by
  unfold keep; rw [range_zl]
def mnL (D : Dat) (l : List Nat) : Nat := mn D (zl l) l.length

/-- The teams that name agent i. -/
def named (D : Dat) (i : Nat) : List Nat := tl D D.K i
def p44 (D : Dat) (i k : Nat) : Bool := D.M k != (i : Int)
def p45 (D : Dat) (i k : Nat) : Bool := !under D i k
/-- .. that agent i manages; .. whose manager its line names. -/
def managed (D : Dat) (i : Nat) : List Nat := (named D i).filter fun k => !p44 D i k
def underM (D : Dat) (i : Nat) : List Nat := (named D i).filter fun k => !p45 D i k
def dept (D : Dat) (i : Nat) : Int :=
  if (named D i).length = 0 then -1
  else if 0 < (managed D i).length then (mnL D (managed D i) : Nat)
  else if (underM D i).length = 0 then (mnL D (named D i) : Nat)
  else (mnL D (underM D i) : Nat)

theorem zl_mem {l : List Nat} {j : Nat} (h : j < l.length) : zl l j ∈ l := by
  unfold zl
  rw [List.getD_eq_getElem?_getD, List.getElem?_eq_getElem h]
  exact List.getElem_mem h

/-- The departments behind i agents. -/
structure R4 (W3 : World) (dB n : Nat) (dep : Nat → Int) (i : Nat) (wr : World) : Prop where
  row : wr.rowIs dB 3 n fun j => .int .i64 (if j < i then dep j else 0)
  bel : W3.grownBy wr (some dB)
  lt : dB < W3.heap.size

/-- A world that has turned in dB alone, and the departments as they will be behind agent i but for its own cell. -/
structure Mid (W3 : World) (dB n : Nat) (dep : Nat → Int) (i : Nat) (v : Int) (w : World) : Prop where
  row : w.rowIs dB 3 n fun j => .int .i64 (if j = i then v else if j < i then dep j else 0)
  bel : W3.grownBy w (some dB)
  lt : dB < W3.heap.size

theorem Mid.ends {W3 : World} {dB n : Nat} {dep : Nat → Int} {i : Nat} {v : Int} {w : World} (h : Mid W3 dB n dep i v w) (hv : v = dep i) : R4 W3 dB n dep (i + 1) w :=
  ⟨h.row.congr fun j _ => by
    by_cases e : j = i
    · subst e; simp [hv]
    · have : (j < i + 1) = (j < i) := by apply propext; omega
      simp [e, this], h.bel, h.lt⟩
theorem Mid.set {W3 : World} {dB n : Nat} {dep : Nat → Int} {i : Nat} {v : Int} {w : World} (h : Mid W3 dB n dep i v w) (u : Int) : Mid W3 dB n dep i u (w.setCell ⟨dB, i, none⟩ (.int .i64 u)) := by
  have hs : w.grownBy (w.setCell ⟨dB, i, none⟩ (.int .i64 u)) (some dB) := grownBy_setCell w ⟨dB, i, none⟩ _
  refine ⟨(h.row.set i _).congr fun j _ => ?_, ⟨hs.os.trans h.bel.os, hs.tape.trans h.bel.tape, hs.output.trans h.bel.output, Nat.le_trans h.bel.size hs.size, fun k hk hne => ?_⟩, h.lt⟩
  · by_cases e : j = i
    · simp [e]
    · simp [e]
  · rw [hs.block k (Nat.lt_of_lt_of_le hk h.bel.size) hne]; exact h.bel.block k hk hne
theorem Mid.grown {W3 : World} {dB n : Nat} {dep : Nat → Int} {i : Nat} {v : Int} {w w' : World} {r : Option Nat} (h : Mid W3 dB n dep i v w) (hg : w.grownBy w' r) (hr : ∀ g, r = some g → W3.heap.size ≤ g) : Mid W3 dB n dep i v w' := by
  have hlt := h.lt
  have hsz := h.bel.size
  refine ⟨h.row.of_block (hg.block _ (by omega) (fun e => by have := hr _ e.symm; omega)), ⟨hg.os.trans h.bel.os, hg.tape.trans h.bel.tape, hg.output.trans h.bel.output, Nat.le_trans hsz hg.size, fun k hk hne => ?_⟩, hlt⟩
  rw [hg.block k (by omega) (fun e => by have := hr _ e.symm; omega)]
  exact h.bel.block k hk hne
theorem Mid.below {W3 : World} {dB n : Nat} {dep : Nat → Int} {i : Nat} {v : Int} {w w' : World} (h : Mid W3 dB n dep i v w) (hb : Below w.heap.size w w') : Mid W3 dB n dep i v w' :=
  h.grown (r := none) ⟨hb.os, hb.tape, hb.output, hb.size, fun k hk _ => hb.block k hk⟩ (fun g e => by cases e)
theorem Mid.drewN {W3 : World} {dB n : Nat} {dep : Nat → Int} {i : Nat} {v : Int} {w : World} (h : Mid W3 dB n dep i v w) (q : Nat) : Mid W3 dB n dep i v (w.drewN q) :=
  ⟨h.row, ⟨h.bel.os, h.bel.tape, h.bel.output, h.bel.size, h.bel.block⟩, h.lt⟩
theorem R4.mid {W3 : World} {dB n : Nat} {dep : Nat → Int} {i : Nat} {w : World} (h : R4 W3 dB n dep i w) (v : Int) (o1 o2 : Obj) : Mid W3 dB n dep i v (((w.setCell ⟨dB, i, none⟩ (.int .i64 v)).alloc o1).alloc o2) := by
  have h0 : Mid W3 dB n dep i 0 w := ⟨h.row.congr fun j _ => by
    by_cases e : j = i
    · subst e; simp
    · simp [e], h.bel, h.lt⟩
  exact ((h0.set v).below ((Below.refl _ _).alloc (Nat.le_refl _) _)).below ((Below.refl _ _).alloc (Nat.le_refl _) _)

/-- The closures' premises, in whatever later world. -/
theorem Env.below {w w' : World} {bc cB : Nat} {D : Dat} {ag tm : Sl} {A T Tm : Nat → Nat} {Y : Nat → Sl} (h : Env w bc cB D ag tm A T Tm Y) (hb : Below w.heap.size w w') : Env w' bc cB D ag tm A T Tm Y :=
  ⟨by rw [hb.cell (p := ⟨bc, 0, none⟩) (block_lt (a := ⟨bc, 0, none⟩) h.box)]; exact h.box, h.comp.below hb⟩
theorem pred44 {w0 : World} {bc cB : Nat} {D : Dat} {ag tm : Sl} {A T Tm : Nat → Nat} {Y : Nat → Sl} (h : Env w0 bc cB D ag tm A T Tm Y) (bi i : Nat) (hbi : w0.cell? ⟨bi, 0, none⟩ = some (.int .i64 i)) :
    ∀ W, Below w0.heap.size w0 W → ∀ k, k < D.K → Calls Try.prog 44 #[.int .i64 k, .pointer (some ⟨bc, 0, none⟩), .pointer (some ⟨bi, 0, none⟩)] W fun e w' => e = .returned (.bool (p44 D i k)) ∧ ∃ q, w' = W.drewN q :=
  fun _ hb k hk => c44_any (h.below hb) k bi i hk (by rw [hb.cell (p := ⟨bi, 0, none⟩) (block_lt (a := ⟨bi, 0, none⟩) hbi)]; exact hbi)
theorem pred45 {w0 : World} {bc cB : Nat} {D : Dat} {ag tm : Sl} {A T Tm : Nat → Nat} {Y : Nat → Sl} (h : Env w0 bc cB D ag tm A T Tm Y) (ba i : Nat) (hi : i < D.n) (hM : ∀ k, k < D.K → D.M k < D.n) (hba : w0.cell? ⟨ba, 0, none⟩ = some (.pointer (some ⟨A i, 0, none⟩))) :
    ∀ W, Below w0.heap.size w0 W → ∀ k, k < D.K → Calls Try.prog 45 #[.int .i64 k, .pointer (some ⟨bc, 0, none⟩), .pointer (some ⟨ba, 0, none⟩)] W fun e w' => e = .returned (.bool (p45 D i k)) ∧ ∃ q, w' = W.drewN q :=
  fun _ hb k hk => c45_any (h.below hb) k ba i hk hi (hM k hk) (by rw [hb.cell (p := ⟨ba, 0, none⟩) (block_lt (a := ⟨ba, 0, none⟩) hba)]; exact hba)
end Go.Proofs.Qxb6601102a
