/-
  Seat b6601041a: from add to a glob of runs; what stays behind a search.
-/
import Derived.Test.Qxb6601041aFind2
import Derived.Test.Qxb6601041aTop
namespace Go.Proofs.Qxb6601041a
open Go.RowKit

theorem row_congr {C C' : Nat → Int} {nl : Nat} {Lf : Nat → Int} {wd : Nat} {Mk Mk' : Nat → Nat} {k i : Nat} (h : RowIs C nl Lf wd Mk k i) (hC : ∀ p, p < i → C p = C' p) (hM : ∀ x, x < wd → Mk (k * wd + x) = Mk' (k * wd + x)) : RowIs C' nl Lf wd Mk' k i := by
  intro p hp
  have h1 := h p hp
  unfold bitAt at h1 ⊢
  simp only [] at h1 ⊢
  rw [← hM _ (by omega), h1]
  constructor
  · rintro ⟨h2, h3⟩
    rw [← hC p h2]
    exact ⟨h2, h3⟩
  · rintro ⟨h2, h3⟩
    rw [← hC p h2] at h3
    exact ⟨h2, h3⟩

/-- The run that add has laid. -/
def runOf (gap n : Nat) (C : Nat → Int) (cs : List Int) (F : Nat → Nat) : RunV := ⟨gap, (List.range n).map C, cs, (List.range ((cs.length + 1) * ((n + 63) / 64))).map F⟩

theorem range_get {α : Type} [Inhabited α] (n : Nat) (f : Nat → α) (p : Nat) (hp : p < n) : ((List.range n).map f)[p]! = f p := by simp [hp]

theorem add_run {w w' : World} {gb : Nat} {wv : Value} {R : List RunV} {n : Nat} {C : Nat → Int} {gap : Nat} {cs : List Int} {F : Nat → Nat} {vc vl vm vs : Value} (h : AddW w gb wv (allC R) (allL R) (allM R) R.length (spans R 0 0 0) n C gap cs F vc vl vm vs w') (hn : n ≤ 4096) (hg : gap ≤ 1048576) :
    GP w gb wv w' (allC (R ++ [runOf gap n C cs F])) (allL (R ++ [runOf gap n C cs F])) (allM (R ++ [runOf gap n C cs F])) (R ++ [runOf gap n C cs F]).length (spans (R ++ [runOf gap n C cs F]) 0 0 0) vc vl vm vs ∧ ROk (runOf gap n C cs F) := by
  constructor
  · have hgp := h.gp
    have e0 : allC (R ++ [runOf gap n C cs F]) = allC R ++ (List.range n).map C := by simp [allC, runOf]
    have e1 : allL (R ++ [runOf gap n C cs F]) = allL R ++ cs := by simp [allL, runOf]
    have e2 : allM (R ++ [runOf gap n C cs F]) = allM R ++ (List.range ((cs.length + 1) * ((n + 63) / 64))).map F := by simp [allM, runOf]
    have e3 : (R ++ [runOf gap n C cs F]).length = R.length + 1 := by simp
    have e4 := spans_append R (runOf gap n C cs F) 0 0 0
    have l0 : (runOf gap n C cs F).C.length = n := by simp [runOf]
    have l1 : (runOf gap n C cs F).L.length = cs.length := rfl
    have l2 : (runOf gap n C cs F).M.length = (cs.length + 1) * ((n + 63) / 64) := by simp [runOf]
    have l3 : (runOf gap n C cs F).gap = gap := rfl
    rw [l0, l1, l2, l3] at e4
    simp only [Nat.zero_add] at e4
    rw [e0, e1, e2, e3, e4]
    exact hgp
  · have l0 : (runOf gap n C cs F).C.length = n := by simp [runOf]
    have l1 : (runOf gap n C cs F).L.length = cs.length := rfl
    have l2 : (runOf gap n C cs F).M.length = (cs.length + 1) * ((n + 63) / 64) := by simp [runOf]
    have gC : ∀ p, p < n → (runOf gap n C cs F).C[p]! = C p := fun p hp => range_get n C p hp
    refine ⟨hg, by omega, by rw [l0, l1]; exact h.le, h.strict, fun p hp hne => ?_, by rw [l0, l1, l2], fun t => ?_, fun k hk => ?_⟩
    · rw [l0] at hp
      rw [gC p hp] at hne ⊢
      exact h.inn p hp hne
    · by_cases ht : t < (cs.length + 1) * ((n + 63) / 64)
      · show ((List.range ((cs.length + 1) * ((n + 63) / 64))).map F)[t]! < _
        rw [range_get _ F t ht]
        exact h.lt t
      · have : (runOf gap n C cs F).M[t]! = 0 := by
          rw [getElem!_neg _ _ (by rw [l2]; exact ht)]
          rfl
        rw [this]
        decide
    · rw [l1] at hk
      rw [l0, l1]
      refine row_congr (h.rows k hk) (fun p hp => (gC p hp).symm) (fun x hx => ?_)
      show F _ = ((List.range ((cs.length + 1) * ((n + 63) / 64))).map F)[k * ((n + 63) / 64) + x]!
      rw [range_get]
      have h1 := Nat.mul_le_mul_right ((n + 63) / 64) hk
      rw [Nat.add_mul, Nat.one_mul]
      omega

theorem FindW.below {w w' : World} {fb : Nat} {xv yv sv : Value} (h : FindW w fb xv yv sv w') (hs : Scr w fb sv) (hlt : fb < w.heap.size) : Below fb w w' :=
  ⟨h.os, h.tape, h.output, h.size, fun k hk => h.block k (by omega) (by omega) (fun e => by have := (hs.lt k e).1; omega)⟩

theorem FoldB.after {w w' : World} {fb : Nat} {y z : Sl} {V : Nat → Int} {W : Nat → Bool} {sv : Value} (h : FoldB w fb y z V W sv) (hw : FindW w fb (.slice y.s y.n y.c) (.slice z.s z.n z.c) sv w') :
    ∃ sv', FoldB w' fb y z V W sv' ∧ (sv'.ownBlock = sv.ownBlock ∨ ∀ b, sv'.ownBlock = some b → w.heap.size ≤ b) := by
  obtain ⟨sv', h1, h2, h3⟩ := hw.fold
  have hlt := h.lt
  have hb := hw.below h.scr hlt
  refine ⟨sv', ⟨h1, h2, h.hy.kept (fun h0 => hb.block _ (h.yb h0)), h.hz.kept (fun h0 => hb.block _ (h.zb h0)), h.len, h.cap, h.big, h.yb, h.zb⟩, h3⟩

theorem GP.after {w0 w w' : World} {gb : Nat} {wv : Value} {Cs Ls : List Int} {Ms : List Nat} {ns : Nat} {Ss : List Value} {vc vl vm vs : Value} (h : GP w0 gb wv w Cs Ls Ms ns Ss vc vl vm vs) {fb : Nat} {y z : Sl} {V : Nat → Int} {W : Nat → Bool} {sv : Value} (hf : FoldB w fb y z V W sv) (hvm : ∀ b, vm.ownBlock = some b → sv.ownBlock ≠ some b)
    (hw : FindW w fb (.slice y.s y.n y.c) (.slice z.s z.n z.c) sv w') : GP w' gb wv w' Cs Ls Ms ns Ss vc vl vm vs := by
  have kc : ∀ g, vc.ownBlock = some g → w'.heap[g]? = w.heap[g]? := fun g hg => hw.block g (h.hc.lt g hg).2 (own_ne_block h.hc hf.blk (by decide) g hg) (own_ne_scr h.hc hf.scr (by decide) g hg)
  have kl : ∀ g, vl.ownBlock = some g → w'.heap[g]? = w.heap[g]? := fun g hg => hw.block g (h.hl.lt g hg).2 (own_ne_block h.hl hf.blk (by decide) g hg) (own_ne_scr h.hl hf.scr (by decide) g hg)
  have km : ∀ g, vm.ownBlock = some g → w'.heap[g]? = w.heap[g]? := fun g hg => hw.block g (h.hm.lt g hg).2 (own_ne_block h.hm hf.blk (by decide) g hg) (hvm g hg)
  have ks : ∀ g, vs.ownBlock = some g → w'.heap[g]? = w.heap[g]? := fun g hg => hw.block g (h.hs.lt g hg).2 (own_ne_block h.hs hf.blk (by decide) g hg) (own_ne_scr h.hs hf.scr (by decide) g hg)
  have own : ∀ {base : Nat} {e : TypeId} {size : Nat} {v : Value} {n : Nat} {xs : List Value}, w.ownsRow base e size v n xs → (∀ g, v.ownBlock = some g → w'.heap[g]? = w.heap[g]?) → w'.ownsRow base e size v n xs := by
    intro base e size v n xs h1 h2
    refine ⟨h1.1, ?_⟩
    rcases h1.2 with hn | ⟨g, cap, cur, rfl, hb, hg, rest⟩
    · exact Or.inl hn
    · exact Or.inr ⟨g, cap, cur, rfl, hb, by rw [h2 g rfl]; exact hg, rest⟩
  have kg : w'.heap[gb]? = w.heap[gb]? := by
    refine hw.block gb h.lt (fun e => ?_) (fun e => ?_)
    · have := h.blk
      rw [e, hf.blk] at this
      cases this
    · rcases hf.scr with rfl | ⟨sb, sn, sc, cur, rfl, _, h2, _⟩
      · cases e
      · simp [Value.ownBlock] at e
        subst e
        have := h.blk
        rw [h2] at this
        cases this
  exact ⟨by rw [kg]; exact h.blk, own h.hc kc, own h.hl kl, own h.hm km, own h.hs ks, h.dis, Below.refl _ _⟩
end Go.Proofs.Qxb6601041a
