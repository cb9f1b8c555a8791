/-
  Place: what one round over the agents stands on.
-/
import Derived.Test.Qxb6601102aDept
namespace Go.Proofs.Qxb6601102a
open Go.RowKit

/-- The world in the midst of round i: departments, closures' premises, the two boxes, the row of teams that name agent i. -/
structure Rd (W3 : World) (dB cB n bc tB : Nat) (D : Dat) (ag tm : Sl) (A T Tm : Nat → Nat) (Y : Nat → Sl) (i bi : Nat) (y : Sl) (W : World) : Prop where
  mid : Mid W3 dB n (dept D) i (-1) W
  env : Env W bc cB D ag tm A T Tm Y
  box : W.cell? ⟨bi, 0, none⟩ = some (.int .i64 i)
  abox : W.cell? ⟨bi + 1, 0, none⟩ = some (.pointer (some ⟨A i, 0, none⟩))
  tcell : W.cell? ⟨tB, i, none⟩ = some (.slice y.s y.n y.c)
  has : y.Has W fun j => .int .i64 (zl (named D i) j)

theorem cell_of_below {w w' : World} {a : Addr} {v : Value} (h : w.cell? a = some v) (hb : Below w.heap.size w w') : w'.cell? a = some v := by
  rw [hb.cell (block_lt h)]; exact h

theorem Rd.below {W3 : World} {dB cB n bc tB : Nat} {D : Dat} {ag tm : Sl} {A T Tm : Nat → Nat} {Y : Nat → Sl} {i bi : Nat} {y : Sl} {W W' : World}
    (h : Rd W3 dB cB n bc tB D ag tm A T Tm Y i bi y W) (hb : Below W.heap.size W W') : Rd W3 dB cB n bc tB D ag tm A T Tm Y i bi y W' :=
  ⟨h.mid.below hb, h.env.below hb, cell_of_below h.box hb, cell_of_below h.abox hb, cell_of_below h.tcell hb, h.has.below hb⟩

theorem ints_zl (l : List Nat) : ints l = (List.range l.length).map fun j => .int .i64 (zl l j) := by
  unfold ints
  conv => lhs; rw [← range_zl l]
  rw [List.map_map]; rfl

theorem owns_sl {w : World} {base : Nat} {s : Option Addr} {c : Nat} {l : List Nat} (h : w.ownsRow base 3 1 (.slice s l.length c) l.length (ints l)) (h0 : 0 < l.length) (hl : l.length ≤ 9223372036854775807) :
    ∃ y : Sl, y.s = s ∧ y.n = l.length ∧ y.c = c ∧ y.Has w fun j => .int .i64 (zl l j) := by
  rw [ints_zl] at h
  obtain ⟨g, f, hs, hb, hn, hrow, hf⟩ := owns_row h h0
  subst hs
  refine ⟨⟨some ⟨g, 0, none⟩, l.length, c, g, 0⟩, rfl, rfl, rfl, ⟨fun i hi => ⟨rfl, ?_⟩, hl⟩⟩
  show w.cell? ⟨g, 0 + i, none⟩ = _
  have hi' : i < l.length := hi
  rw [Nat.zero_add, hrow.cell (by omega), hf i hi']

theorem DelP.list {p : Nat → Bool} {l : List Nat} {g c : Nat} {w : World} {e : Ending} {w' : World} (h : DelP p (zl l) l.length g c w e w') (hl : l.length ≤ 9223372036854775807) (hlc : l.length ≤ c) :
    ∃ y : Sl, y.n = (l.filter fun k => !p k).length ∧ e = .returned (.slice y.s y.n y.c) ∧ (y.Has w' fun j => .int .i64 (zl (l.filter fun k => !p k) j)) ∧ w.grownBy w' (some g) := by
  obtain ⟨f, he, hrow, hf, hg⟩ := h
  have hk := keep_le p (zl l) l.length
  rw [keep_zl] at hk
  simp only [keep_zl] at he hf
  refine ⟨⟨some ⟨g, 0, none⟩, (l.filter fun k => !p k).length, c, g, 0⟩, rfl, he, ⟨fun i hi => ⟨rfl, ?_⟩, by show (l.filter fun k => !p k).length ≤ _; omega⟩, hg⟩
  show w'.cell? ⟨g, 0 + i, none⟩ = _
  have hi' : i < (l.filter fun k => !p k).length := hi
  rw [Nat.zero_add, hrow.cell (by omega), hf i hi']
  unfold zl
  rw [List.getD_eq_getElem?_getD, List.getElem?_eq_getElem hi']
  rfl

theorem Rd.start {w W3 : World} {dB cB n : Nat} {D : Dat} {ag tm : Sl} {A T Tm : Nat → Nat} {Y : Nat → Sl} {i : Nat} {wr : World} {F : Nat → Value} {s : Option Addr} {c : Nat}
    (hR : R4 W3 dB n (dept D) i wr) (hc : Comp w cB D ag tm A T Tm Y) (hB : Below w.heap.size w wr) (hbx : wr.cell? ⟨w.heap.size, 0, none⟩ = some (.pointer (some ⟨cB, 0, none⟩)))
    (htr : wr.rowIs (w.heap.size + 1) 24 n F) (hF : F i = .slice s (named D i).length c) (hown : wr.ownsRow (w.heap.size + 1 + 1) 3 1 (.slice s (named D i).length c) (named D i).length (ints (named D i)))
    (hne : (Value.slice s (named D i).length c).ownBlock ≠ some dB) (hdB : w.heap.size + 1 < dB) (hi : i < n) (h0 : 0 < (named D i).length) (hl : (named D i).length ≤ 9223372036854775807) :
    ∃ y : Sl, y.n = (named D i).length ∧ s = y.s ∧ c = y.c ∧ Rd W3 dB cB n w.heap.size (w.heap.size + 1) D ag tm A T Tm Y i wr.heap.size y (((wr.setCell ⟨dB, i, none⟩ (.int .i64 (-1))).alloc (.cells #[.int .i64 (i : Int)] 3)).alloc (.cells #[.pointer (some ⟨A i, 0, none⟩)] 86)) := by
  have hbs := hB.size
  have hB2 : Below w.heap.size w (((wr.setCell ⟨dB, i, none⟩ (.int .i64 (-1))).alloc (.cells #[.int .i64 (i : Int)] 3)).alloc (.cells #[.pointer (some ⟨A i, 0, none⟩)] 86)) :=
    (((hB.setCell (p := ⟨dB, i, none⟩) (by show w.heap.size ≤ dB; omega) _).alloc (by simp; omega) _).alloc (by simp; omega) _)
  have hset : wr.grownBy (wr.setCell ⟨dB, i, none⟩ (.int .i64 (-1))) (some dB) := grownBy_setCell wr ⟨dB, i, none⟩ _
  obtain ⟨y, e1, e2, e3, hy⟩ := owns_sl (((hown.kept hset (Or.inr hne)).alloc (.cells #[.int .i64 (i : Int)] 3)).alloc (.cells #[.pointer (some ⟨A i, 0, none⟩)] 86)) h0 hl
  refine ⟨y, e2, e1.symm, e3.symm, ⟨hR.mid _ _ _, ⟨?_, hc.below hB2⟩, ?_, ?_, ?_, hy⟩⟩
  · have h1 := hset.cell hbx (fun e => by have := Option.some.inj e; simp at this; omega)
    exact cell_of_below (cell_of_below h1 ((Below.refl _ _).alloc (Nat.le_refl _) _)) ((Below.refl _ _).alloc (Nat.le_refl _) _)
  · rw [World.cell?_alloc_past _ _ _ (by simp), World.cell?_alloc_at _ _ _ _ (by simp)]; rfl
  · rw [World.cell?_alloc_at _ _ _ _ (by simp)]; rfl
  · rw [e1, e2, e3, ← hF]
    exact (((htr.setOther (a := ⟨dB, i, none⟩) (show w.heap.size + 1 ≠ dB by omega) (.int .i64 (-1))).alloc _).alloc _).cell hi
theorem Rd.del44 {W3 : World} {dB cB n bc tB : Nat} {D : Dat} {ag tm : Sl} {A T Tm : Nat → Nat} {Y : Nat → Sl} {i bi : Nat} {y : Sl} {W : World} (h : Rd W3 dB cB n bc tB D ag tm A T Tm Y i bi y W) (hyn : y.n = (named D i).length) (h0 : 0 < y.n) (hyl : y.n ≤ 4398046511104) (hz : ∀ j, j < y.n → zl (named D i) j < D.K)
    {W1 : World} (hb : Below W.heap.size W W1) {g c : Nat} {f : Nat → Value} (hrow : W1.rowIs g 3 c f) (hf : ∀ j, j < y.n → f j = .int .i64 (zl (named D i) j)) (hnc : y.n ≤ c) (hg : W.heap.size ≤ g) :
    Calls Try.prog 42 #[.slice (some ⟨g, 0, none⟩) y.n c, .func (.func 44) #[] #[.pointer (some ⟨bc, 0, none⟩), .pointer (some ⟨bi, 0, none⟩)]] W1 fun e W2 => ∃ y2 : Sl, y2.n = (managed D i).length ∧ e = .returned (.slice y2.s y2.n y2.c) ∧ (y2.Has W2 fun j => .int .i64 (zl (managed D i) j)) ∧ Below W.heap.size W W2 := by
  refine (del44_any W D.K bc (bi) (p44 D i) (pred44 h.env bi i h.box) W1 hb g y.n c f hg (zl (named D i)) hrow hf h0 hnc (by omega) hz).mono ?_
  intro e W2 hd
  rw [hyn] at hd
  obtain ⟨y2, e1, e2, e3, e4⟩ := hd.list (by omega) (by omega)
  exact ⟨y2, e1, e2, e3, hb.grown e4 hb.size (fun k e => by cases e; exact hg)⟩

theorem Rd.del45 {W3 : World} {dB cB n bc tB : Nat} {D : Dat} {ag tm : Sl} {A T Tm : Nat → Nat} {Y : Nat → Sl} {i bi : Nat} {y : Sl} {W : World} (h : Rd W3 dB cB n bc tB D ag tm A T Tm Y i bi y W) (hyn : y.n = (named D i).length) (h0 : 0 < y.n) (hyl : y.n ≤ 4398046511104) (hz : ∀ j, j < y.n → zl (named D i) j < D.K) (hi : i < D.n) (hM : ∀ k, k < D.K → D.M k < D.n)
    {W1 : World} (hb : Below W.heap.size W W1) {g c : Nat} {f : Nat → Value} (hrow : W1.rowIs g 3 c f) (hf : ∀ j, j < y.n → f j = .int .i64 (zl (named D i) j)) (hnc : y.n ≤ c) (hg : W.heap.size ≤ g) :
    Calls Try.prog 42 #[.slice (some ⟨g, 0, none⟩) y.n c, .func (.func 45) #[] #[.pointer (some ⟨bc, 0, none⟩), .pointer (some ⟨bi + 1, 0, none⟩)]] W1 fun e W2 => ∃ y2 : Sl, y2.n = (underM D i).length ∧ e = .returned (.slice y2.s y2.n y2.c) ∧ (y2.Has W2 fun j => .int .i64 (zl (underM D i) j)) ∧ Below W.heap.size W W2 := by
  refine (del45_any W D.K bc (bi + 1) (p45 D i) (pred45 h.env (bi + 1) i hi hM h.abox) W1 hb g y.n c f hg (zl (named D i)) hrow hf h0 hnc (by omega) hz).mono ?_
  intro e W2 hd
  rw [hyn] at hd
  obtain ⟨y2, e1, e2, e3, e4⟩ := hd.list (by omega) (by omega)
  exact ⟨y2, e1, e2, e3, hb.grown e4 hb.size (fun k e => by cases e; exact hg)⟩

theorem Rd.done {W3 : World} {dB cB n bc tB : Nat} {D : Dat} {ag tm : Sl} {A T Tm : Nat → Nat} {Y : Nat → Sl} {i bi : Nat} {y : Sl} {W : World} (h : Rd W3 dB cB n bc tB D ag tm A T Tm Y i bi y W) (q : Nat) (u : Int) (hu : u = dept D i) : R4 W3 dB n (dept D) (i + 1) ((W.drewN q).setCell ⟨dB, i, none⟩ (.int .i64 u)) :=
  ((h.mid.drewN q).set u).ends hu

theorem Rd.first {W3 : World} {dB cB n bc tB : Nat} {D : Dat} {ag tm : Sl} {A T Tm : Nat → Nat} {Y : Nat → Sl} {i bi : Nat} {y : Sl} {W : World} (h : Rd W3 dB cB n bc tB D ag tm A T Tm Y i bi y W) (y2 : Sl) (l : List Nat) (hy : y2.Has W fun j => .int .i64 (zl l j)) (hn : y2.n = l.length) (h0 : 0 < y2.n) (hl : ∀ k ∈ l, k < D.K) (q : Nat) :
    Calls Try.prog 38 #[.slice y2.s y2.n y2.c, .pointer (some ⟨bc, 0, none⟩)] (W.drewN q) fun e w' => e = .returned (.int .i64 (mnL D l : Nat)) ∧ ∃ q', w' = W.drewN (q + q') := by
  refine (first_any (h.env.drewN q) y2 (zl l) (hy.drewN q) h0 (fun j hj => hl _ (zl_mem (by omega)))).mono ?_
  rintro e w' ⟨rfl, q', rfl⟩
  exact ⟨by unfold mnL; rw [hn], q', by rw [World.drewN_drewN]⟩

theorem named_lt (D : Dat) (i k : Nat) (h : k ∈ named D i) : k < D.K := tl_lt D D.K i k h
theorem named_len (D : Dat) (i : Nat) (h : ∀ k, k < D.K → D.nm k ≤ 1048576) : (named D i).length ≤ D.K * 1048576 := tl_len D D.K i h

end Go.Proofs.Qxb6601102a
