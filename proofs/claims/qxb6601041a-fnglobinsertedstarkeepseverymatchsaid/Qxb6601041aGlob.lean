/-
  Seat b6601041a: THE GLOB IN MEMORY, and each step of add upon it.
-/
import Derived.Test.Qxb6601041aTail2
import Derived.Test.Qxb6601041aRun
namespace Go.Proofs.Qxb6601041a
open Go.RowKit

def u64v (n : Nat) : Value := .int .u64 (n : Nat)

theorem own_apart {w : World} {base base' : Nat} {e e' : TypeId} {size size' : Nat} {v v' : Value} {n n' : Nat} {xs xs' : List Value} (h : w.ownsRow base e size v n xs) (h' : w.ownsRow base' e' size' v' n' xs') (hne : e ≠ e') : ∀ b, v.ownBlock = some b → v'.ownBlock ≠ some b := by
  intro b hb hb'
  rcases h.2 with ⟨rfl, _⟩ | ⟨g, cap, cur, rfl, _, hg, _⟩
  · cases hb
  rcases h'.2 with ⟨rfl, _⟩ | ⟨g', cap', cur', rfl, _, hg', _⟩
  · cases hb'
  simp [Value.ownBlock] at hb hb'
  subst hb
  subst hb'
  rw [hg] at hg'
  cases hg'
  exact hne rfl

theorem ne_of_apart {v v' : Value} (h : ∀ b, v.ownBlock = some b → v'.ownBlock ≠ some b) : v.ownBlock = none ∨ v.ownBlock ≠ v'.ownBlock := by
  cases hv : v.ownBlock with
  | none => exact Or.inl rfl
  | some b => exact Or.inr fun e => h b hv e.symm

/-- The glob at gb; below it all is as it was in w0. -/
structure GP (w0 : World) (gb : Nat) (wv : Value) (w : World) (Cs Ls : List Int) (Ms : List Nat) (ns : Nat) (Ss : List Value) (vc vl vm vs : Value) : Prop where
  blk : w.heap[gb]? = some (.cells #[vc, vl, vm, vs, wv] 62 (0, 0))
  hc : w.ownsRow (gb + 1) 21 1 vc Cs.length (Cs.map (Value.int .i32))
  hl : w.ownsRow (gb + 1) 21 1 vl Ls.length (Ls.map (Value.int .i32))
  hm : w.ownsRow (gb + 1) 65 1 vm Ms.length (Ms.map u64v)
  hs : w.ownsRow (gb + 1) 69 4 vs ns Ss
  dis : ∀ b, vc.ownBlock = some b → vl.ownBlock ≠ some b
  below : Below gb w0 w

section
variable {w0 : World} {gb : Nat} {wv : Value} {w : World} {Cs Ls : List Int} {Ms : List Nat} {ns : Nat} {Ss : List Value} {vc vl vm vs : Value}

theorem GP.lt (h : GP w0 gb wv w Cs Ls Ms ns Ss vc vl vm vs) : gb < w.heap.size := (Array.getElem?_eq_some_iff.1 h.blk).1
theorem GP.cell (h : GP w0 gb wv w Cs Ls Ms ns Ss vc vl vm vs) : w.cell? ⟨gb, 0, none⟩ = some vc ∧ w.cell? ⟨gb, 1, none⟩ = some vl ∧ w.cell? ⟨gb, 2, none⟩ = some vm ∧ w.cell? ⟨gb, 3, none⟩ = some vs := by
  simp [World.cell?, h.blk]
theorem GP.frz (h : GP w0 gb wv w Cs Ls Ms ns Ss vc vl vm vs) (k : Nat) : w.frozen? ⟨gb, k, none⟩ = false := by
  simp [World.frozen?, h.blk]

theorem GP.kept (h : GP w0 gb wv w Cs Ls Ms ns Ss vc vl vm vs) {w' : World} (hg : w.grownBy w' none) : GP w0 gb wv w' Cs Ls Ms ns Ss vc vl vm vs := by
  have hn : ∀ v : Value, v.ownBlock = none ∨ v.ownBlock ≠ none := fun v => by cases v.ownBlock <;> simp
  exact ⟨by rw [hg.block gb h.lt (by simp)]; exact h.blk, h.hc.kept hg (hn _), h.hl.kept hg (hn _), h.hm.kept hg (hn _), h.hs.kept hg (hn _), h.dis, h.below.grown hg (Nat.le_of_lt h.lt) (fun k hk => by cases hk)⟩
theorem GP.alloc (h : GP w0 gb wv w Cs Ls Ms ns Ss vc vl vm vs) (o : Obj) : GP w0 gb wv (w.alloc o) Cs Ls Ms ns Ss vc vl vm vs := h.kept (World.grownBy_alloc w o none)
theorem GP.drewN (h : GP w0 gb wv w Cs Ls Ms ns Ss vc vl vm vs) (q : Nat) : GP w0 gb wv (w.drewN q) Cs Ls Ms ns Ss vc vl vm vs := h.kept ⟨rfl, rfl, rfl, Nat.le_refl _, fun _ _ _ => rfl⟩
theorem GP.drew (h : GP w0 gb wv w Cs Ls Ms ns Ss vc vl vm vs) : GP w0 gb wv w.drew Cs Ls Ms ns Ss vc vl vm vs := h.kept ⟨rfl, rfl, rfl, Nat.le_refl _, fun _ _ _ => rfl⟩

theorem OldOrNew.apart {v v' u : Value} (hnew : OldOrNew w v v') (h : ∀ b, u.ownBlock = some b → v.ownBlock ≠ some b) (hu : ∀ b, u.ownBlock = some b → b < w.heap.size) : ∀ b, u.ownBlock = some b → v'.ownBlock ≠ some b := by
  intro b hb hb'
  rcases hnew with h1 | h1
  · exact h b hb (by rw [← h1]; exact hb')
  · have := h1 b hb'
    have := hu b hb
    omega

theorem GP.lits (h : GP w0 gb wv w Cs Ls Ms ns Ss vc vl vm vs) {w' : World} {v' : Value} {Ls' : List Int} (hown : w'.ownsRow (gb + 1) 21 1 v' Ls'.length (Ls'.map (Value.int .i32))) (hg : w.grownBy w' vl.ownBlock) (hnew : OldOrNew w vl v') :
    w'.heap[gb]? = some (.cells #[vc, vl, vm, vs, wv] 62 (0, 0)) ∧ GP w0 gb wv (w'.setCell ⟨gb, 1, none⟩ v') Cs Ls' Ms ns Ss vc v' vm vs := by
  have hgb : ∀ k, vl.ownBlock = some k → gb + 1 ≤ k := fun k hk => (h.hl.lt k hk).1
  have hb : w'.heap[gb]? = some (.cells #[vc, vl, vm, vs, wv] 62 (0, 0)) := by
    rw [hg.block gb h.lt (fun e => by have := hgb gb e.symm; omega)]
    exact h.blk
  have khc := h.hc.kept hg (ne_of_apart (h.dis))
  have khm := h.hm.kept hg (ne_of_apart (own_apart h.hm h.hl (by decide)))
  have khs := h.hs.kept hg (ne_of_apart (own_apart h.hs h.hl (by decide)))
  refine ⟨hb, ⟨by rw [heap_setCell_same _ _ _ _ _ _ hb]; rfl, ownsRow_setCell_below khc (by simp) _, ownsRow_setCell_below hown (by simp) _, ownsRow_setCell_below khm (by simp) _, ownsRow_setCell_below khs (by simp) _, OldOrNew.apart hnew h.dis (fun b h3 => (h.hc.lt b h3).2), (h.below.grown hg (Nat.le_of_lt h.lt) (fun k hk => by have := hgb k hk; omega)).setCell (Nat.le_refl _) _⟩⟩

theorem GP.masks (h : GP w0 gb wv w Cs Ls Ms ns Ss vc vl vm vs) {w' : World} {v' : Value} {Ms' : List Nat} (hown : w'.ownsRow (gb + 1) 65 1 v' Ms'.length (Ms'.map u64v)) (hg : w.grownBy w' vm.ownBlock) :
    w'.heap[gb]? = some (.cells #[vc, vl, vm, vs, wv] 62 (0, 0)) ∧ GP w0 gb wv (w'.setCell ⟨gb, 2, none⟩ v') Cs Ls Ms' ns Ss vc vl v' vs := by
  have hgb : ∀ k, vm.ownBlock = some k → gb + 1 ≤ k := fun k hk => (h.hm.lt k hk).1
  have hb : w'.heap[gb]? = some (.cells #[vc, vl, vm, vs, wv] 62 (0, 0)) := by
    rw [hg.block gb h.lt (fun e => by have := hgb gb e.symm; omega)]
    exact h.blk
  have khc := h.hc.kept hg (ne_of_apart (own_apart h.hc h.hm (by decide)))
  have khl := h.hl.kept hg (ne_of_apart (own_apart h.hl h.hm (by decide)))
  have khs := h.hs.kept hg (ne_of_apart (own_apart h.hs h.hm (by decide)))
  refine ⟨hb, ⟨by rw [heap_setCell_same _ _ _ _ _ _ hb]; rfl, ownsRow_setCell_below khc (by simp) _, ownsRow_setCell_below khl (by simp) _, ownsRow_setCell_below hown (by simp) _, ownsRow_setCell_below khs (by simp) _, h.dis, (h.below.grown hg (Nat.le_of_lt h.lt) (fun k hk => by have := hgb k hk; omega)).setCell (Nat.le_refl _) _⟩⟩

theorem GP.chars (h : GP w0 gb wv w Cs Ls Ms ns Ss vc vl vm vs) {w' : World} {v' : Value} {Cs' : List Int} (hown : w'.ownsRow (gb + 1) 21 1 v' Cs'.length (Cs'.map (Value.int .i32))) (hg : w.grownBy w' vc.ownBlock) (hnew : OldOrNew w vc v') :
    w'.heap[gb]? = some (.cells #[vc, vl, vm, vs, wv] 62 (0, 0)) ∧ GP w0 gb wv (w'.setCell ⟨gb, 0, none⟩ v') Cs' Ls Ms ns Ss v' vl vm vs := by
  have hgb : ∀ k, vc.ownBlock = some k → gb + 1 ≤ k := fun k hk => (h.hc.lt k hk).1
  have hb : w'.heap[gb]? = some (.cells #[vc, vl, vm, vs, wv] 62 (0, 0)) := by
    rw [hg.block gb h.lt (fun e => by have := hgb gb e.symm; omega)]
    exact h.blk
  have khl := h.hl.kept hg (ne_of_apart (fun b h1 h2 => h.dis b h2 h1))
  have khm := h.hm.kept hg (ne_of_apart (own_apart h.hm h.hc (by decide)))
  have khs := h.hs.kept hg (ne_of_apart (own_apart h.hs h.hc (by decide)))
  refine ⟨hb, ⟨by rw [heap_setCell_same _ _ _ _ _ _ hb]; rfl, ownsRow_setCell_below hown (by simp) _, ownsRow_setCell_below khl (by simp) _, ownsRow_setCell_below khm (by simp) _, ownsRow_setCell_below khs (by simp) _, fun b h1 h2 => OldOrNew.apart hnew (fun b h3 h4 => h.dis b h4 h3) (fun b h3 => (h.hl.lt b h3).2) b h2 h1, (h.below.grown hg (Nat.le_of_lt h.lt) (fun k hk => by have := hgb k hk; omega)).setCell (Nat.le_refl _) _⟩⟩

theorem GP.spans (h : GP w0 gb wv w Cs Ls Ms ns Ss vc vl vm vs) {w' : World} {v' : Value} {ns' : Nat} {Ss' : List Value} (hown : w'.ownsRow (gb + 1) 69 4 v' ns' Ss') (hg : w.grownBy w' vs.ownBlock) :
    w'.heap[gb]? = some (.cells #[vc, vl, vm, vs, wv] 62 (0, 0)) ∧ GP w0 gb wv (w'.setCell ⟨gb, 3, none⟩ v') Cs Ls Ms ns' Ss' vc vl vm v' := by
  have hgb : ∀ k, vs.ownBlock = some k → gb + 1 ≤ k := fun k hk => (h.hs.lt k hk).1
  have hb : w'.heap[gb]? = some (.cells #[vc, vl, vm, vs, wv] 62 (0, 0)) := by
    rw [hg.block gb h.lt (fun e => by have := hgb gb e.symm; omega)]
    exact h.blk
  have khc := h.hc.kept hg (ne_of_apart (own_apart h.hc h.hs (by decide)))
  have khl := h.hl.kept hg (ne_of_apart (own_apart h.hl h.hs (by decide)))
  have khm := h.hm.kept hg (ne_of_apart (own_apart h.hm h.hs (by decide)))
  refine ⟨hb, ⟨by rw [heap_setCell_same _ _ _ _ _ _ hb]; rfl, ownsRow_setCell_below khc (by simp) _, ownsRow_setCell_below khl (by simp) _, ownsRow_setCell_below khm (by simp) _, ownsRow_setCell_below hown (by simp) _, h.dis, (h.below.grown hg (Nat.le_of_lt h.lt) (fun k hk => by have := hgb k hk; omega)).setCell (Nat.le_refl _) _⟩⟩


/-- The lits turned in place (sorted). -/
theorem GP.litsIn (h : GP w0 gb wv w Cs Ls Ms ns Ss vc vl vm vs) {w' : World} {Ls' : List Int} (hown : w'.ownsRow (gb + 1) 21 1 vl Ls'.length (Ls'.map (Value.int .i32))) (hg : w.grownBy w' vl.ownBlock) : GP w0 gb wv w' Cs Ls' Ms ns Ss vc vl vm vs := by
  have hgb : ∀ k, vl.ownBlock = some k → gb + 1 ≤ k := fun k hk => (h.hl.lt k hk).1
  exact ⟨by rw [hg.block gb h.lt (fun e => by have := hgb gb e.symm; omega)]; exact h.blk, h.hc.kept hg (ne_of_apart h.dis), hown, h.hm.kept hg (ne_of_apart (own_apart h.hm h.hl (by decide))), h.hs.kept hg (ne_of_apart (own_apart h.hs h.hl (by decide))), h.dis,
    h.below.grown hg (Nat.le_of_lt h.lt) (fun k hk => by have := hgb k hk; omega)⟩

/-- The masks turned in place. -/
theorem GP.masksIn (h : GP w0 gb wv w Cs Ls Ms ns Ss vc vl vm vs) {w' : World} {Ms' : List Nat} (hown : w'.ownsRow (gb + 1) 65 1 vm Ms'.length (Ms'.map u64v)) (hg : w.grownBy w' vm.ownBlock) : GP w0 gb wv w' Cs Ls Ms' ns Ss vc vl vm vs := by
  have hgb : ∀ k, vm.ownBlock = some k → gb + 1 ≤ k := fun k hk => (h.hm.lt k hk).1
  exact ⟨by rw [hg.block gb h.lt (fun e => by have := hgb gb e.symm; omega)]; exact h.blk, h.hc.kept hg (ne_of_apart (own_apart h.hc h.hm (by decide))), h.hl.kept hg (ne_of_apart (own_apart h.hl h.hm (by decide))), hown, h.hs.kept hg (ne_of_apart (own_apart h.hs h.hm (by decide))), h.dis,
    h.below.grown hg (Nat.le_of_lt h.lt) (fun k hk => by have := hgb k hk; omega)⟩
end
end Go.Proofs.Qxb6601041a
