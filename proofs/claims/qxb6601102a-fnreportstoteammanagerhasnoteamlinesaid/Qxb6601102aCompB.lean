/-
  THE WALKS, E: zzCompanyB1: what a round of its second loop makes of the company; the company that is handed back.
-/
import Derived.Test.Qxb6601102aCompA
namespace Go.Proofs.Qxb6601102a
open Go.RowKit

/-- A team at block a: its file, id, manager; the agents that it names, in the slice y. -/
structure TmAt (w : World) (a : Nat) (y : Sl) (f i : ByteArray) (m : Int) (nm : Nat) (Z : Nat → Int) : Prop where
  file : w.cell? ⟨a, 0, none⟩ = some (.string f)
  id : w.cell? ⟨a, 1, none⟩ = some (.string i)
  mgr : w.cell? ⟨a, 3, none⟩ = some (.int .i64 m)
  named : w.cell? ⟨a, 4, none⟩ = some (.slice y.s y.n y.c)
  row : Ints w y Z
  len : y.n = nm
theorem TmAt.moved {w w' : World} {a : Nat} {y : Sl} {f i : ByteArray} {m : Int} {nm : Nat} {Z : Nat → Int} (h : TmAt w a y f i m nm Z) (ha : w'.heap[a]? = w.heap[a]?) (hy : 0 < y.n → w'.heap[y.b]? = w.heap[y.b]?) : TmAt w' a y f i m nm Z :=
  ⟨by rw [World.cell?_of_block (a := ⟨a, 0, none⟩) ha]; exact h.file, by rw [World.cell?_of_block (a := ⟨a, 1, none⟩) ha]; exact h.id, by rw [World.cell?_of_block (a := ⟨a, 3, none⟩) ha]; exact h.mgr,
    by rw [World.cell?_of_block (a := ⟨a, 4, none⟩) ha]; exact h.named, h.row.of_block hy, h.len⟩
theorem TmAt.lt {w : World} {a : Nat} {y : Sl} {f i : ByteArray} {m : Int} {nm : Nat} {Z : Nat → Int} (h : TmAt w a y f i m nm Z) : a < w.heap.size := block_lt (a := ⟨a, 0, none⟩) h.file

/-- zzCompanyB1 behind k rounds of its second loop. -/
structure R2 (W0 : World) (cB : Nat) (ag : Value) (tf ti : Nat → ByteArray) (M : Nat → Int) (nm : Nat → Nat) (Z : Nat → Nat → Int) (k : Nat) (s : Option Addr) (c : Nat) (Tm : Nat → Nat) (Y : Nat → Sl) (wr : World) : Prop where
  comp : wr.rowIs cB 78 7 (cCells ag (.slice s k c))
  own : wr.ownsRow W0.heap.size 79 1 (.slice s k c) k (ptrs Tm k)
  tm : ∀ j, j < k → TmAt wr (Tm j) (Y j) (tf j) (ti j) (M j) (nm j) (Z j) ∧ W0.heap.size ≤ Tm j ∧ (Value.slice s k c).ownBlock ≠ some (Tm j) ∧ (0 < (Y j).n → W0.heap.size ≤ (Y j).b ∧ (Value.slice s k c).ownBlock ≠ some (Y j).b)
  bel : W0.grownBy wr (some cB)
  cb : cB < W0.heap.size

theorem R2.next {W0 : World} {cB : Nat} {ag : Value} {tf ti : Nat → ByteArray} {M : Nat → Int} {nm : Nat → Nat} {Z : Nat → Nat → Int} {k : Nat} {s : Option Addr} {c : Nat} {Tm : Nat → Nat} {Y : Nat → Sl} {wr W w2 : World} {s' : Option Addr} {c' a : Nat} {y : Sl}
    (h : R2 W0 cB ag tf ti M nm Z k s c Tm Y wr) (hb : Below wr.heap.size wr W) (htm : TmAt W a y (tf k) (ti k) (M k) (nm k) (Z k)) (ha : wr.heap.size ≤ a) (hy : 0 < y.n → wr.heap.size ≤ y.b)
    (hown : w2.ownsRow W0.heap.size 79 1 (.slice s' (k + 1) c') (k + 1) (ptrs Tm k ++ [.pointer (some ⟨a, 0, none⟩)])) (hg : W.grownBy w2 (Value.slice s k c).ownBlock) (hnew : OldOrNew W (.slice s k c) (.slice s' (k + 1) c')) :
    R2 W0 cB ag tf ti M nm Z (k + 1) s' c' (fun j => if j = k then a else Tm j) (fun j => if j = k then y else Y j) (w2.setCell ⟨cB, 6, none⟩ (.slice s' (k + 1) c')) := by
  have hcl := h.comp.lt
  have hcb := h.cb
  have hownlt := h.own.lt
  have hsz := hb.size
  have hsz0 := h.bel.size
  have hown0 : (Value.slice s k c).ownBlock ≠ some cB := fun e => by have := (hownlt _ e).1; omega
  have hc2 : w2.rowIs cB 78 7 (cCells ag (.slice s k c)) := (h.comp.of_block (hb.block _ hcl)).of_block (hg.block _ (by omega) (fun e => hown0 e.symm))
  have hset : w2.grownBy (w2.setCell ⟨cB, 6, none⟩ (.slice s' (k + 1) c')) (some cB) := grownBy_setCell w2 ⟨cB, 6, none⟩ (.slice s' (k + 1) c')
  have hgs := hg.size
  have stays : ∀ b, b < W.heap.size → (Value.slice s k c).ownBlock ≠ some b → b ≠ cB → (w2.setCell ⟨cB, 6, none⟩ (.slice s' (k + 1) c')).heap[b]? = W.heap[b]? := by
    intro b h1 h2 h3
    rw [hset.block b (by omega) (fun e => h3 (Option.some.inj e)), hg.block b h1 (fun e => h2 e.symm)]
  have hnk : ∀ b, wr.heap.size ≤ b → (Value.slice s k c).ownBlock ≠ some b := fun b h1 e => by have := (hownlt _ e).2; omega
  have halt := htm.lt
  refine ⟨(hc2.set 6 _).congr fun j _ => ?_, ?_, fun j hj => ?_, ?_, hcb⟩
  · unfold cCells
    by_cases e : j = 6
    · simp [e]
    · simp [e]
  · rw [ptrs_succ]
    refine hown.kept hset ?_
    right
    exact hnew.ne hown0 (by omega)
  · by_cases e : j = k
    · subst e
      simp only [if_pos]
      have h1 := hnk a ha
      refine ⟨htm.moved (stays a halt h1 (by omega)) (fun h0 => ?_), by omega, hnew.ne h1 halt, fun h0 => ⟨by have := hy h0; omega, hnew.ne (hnk _ (hy h0)) (htm.row.has.blk h0)⟩⟩
      have := hy h0
      exact stays _ (htm.row.has.blk h0) (hnk _ this) (by omega)
    · simp only [if_neg e]
      obtain ⟨g1, g2, g3, g4⟩ := h.tm j (by omega)
      have g7 := g1.lt
      refine ⟨g1.moved ?_ (fun h0 => ?_), g2, hnew.ne g3 (by omega), fun h0 => ⟨(g4 h0).1, hnew.ne (g4 h0).2 ?_⟩⟩
      · rw [stays _ (by omega) g3 (by omega)]; exact hb.block _ g7
      · have g8 := g1.row.has.blk h0
        have g9 := g4 h0
        rw [stays _ (by omega) g9.2 (by omega)]
        exact hb.block _ g8
      · have := g1.row.has.blk h0
        omega
  · refine ⟨hset.os.trans (hg.os.trans (hb.os.trans h.bel.os)), hset.tape.trans (hg.tape.trans (hb.tape.trans h.bel.tape)), hset.output.trans (hg.output.trans (hb.output.trans h.bel.output)), by have := hset.size; omega, fun b h1 h2 => ?_⟩
    rw [stays b (by omega) (fun e => by have := (hownlt _ e).1; omega) (fun e => h2 (by rw [e])), hb.block b (by omega)]
    exact h.bel.block b h1 h2

theorem run_append_empty {P : Program} (w : World) (t ty e : TypeId) (i : TypeInfo) (ht : P.underlying t = some (.slice e)) (hi : P.info? e = some i) (s : Option Addr) (c : Nat) :
    (Builtin.append_ #[t, t] ty #[.slice none 0 0, .slice s 0 c]).run P w = .ok (.slice none 0 0) w := by
  cases s <;> simp [Builtin.append_, run_underlying ht, sizeOf, typeInfo, hi, Builtin.lenOf, Builtin.firstCells, loadCells, loadCellsFrom]

/-! ### The company, as it is read afterwards -/
structure Dat where
  n : Nat
  K : Nat
  slug : Nat → ByteArray
  given : Nat → Bool
  hr : Nat → Bool
  rep : Nat → ByteArray
  tf : Nat → ByteArray
  ti : Nat → ByteArray
  M : Nat → Int
  nm : Nat → Nat
  Z : Nat → Nat → Int

structure Comp (w : World) (cB : Nat) (D : Dat) (ag tm : Sl) (A T Tm : Nat → Nat) (Y : Nat → Sl) : Prop where
  c4 : w.cell? ⟨cB, 4, none⟩ = some (.slice ag.s ag.n ag.c)
  c6 : w.cell? ⟨cB, 6, none⟩ = some (.slice tm.s tm.n tm.c)
  agn : ag.n = D.n
  tmn : tm.n = D.K
  ags : ag.Has w fun j => .pointer (some ⟨A j, 0, none⟩)
  tms : tm.Has w fun j => .pointer (some ⟨Tm j, 0, none⟩)
  a : ∀ j, j < D.n → AgAt w (A j) (T j) (D.slug j) (D.given j) (D.hr j) (D.rep j)
  t : ∀ j, j < D.K → TmAt w (Tm j) (Y j) (D.tf j) (D.ti j) (D.M j) (D.nm j) (D.Z j)

theorem Comp.below {w w' : World} {cB : Nat} {D : Dat} {ag tm : Sl} {A T Tm : Nat → Nat} {Y : Nat → Sl} (h : Comp w cB D ag tm A T Tm Y) (hb : Below w.heap.size w w') : Comp w' cB D ag tm A T Tm Y :=
  ⟨by rw [hb.cell (p := ⟨cB, 4, none⟩) (block_lt (a := ⟨cB, 4, none⟩) h.c4)]; exact h.c4, by rw [hb.cell (p := ⟨cB, 6, none⟩) (block_lt (a := ⟨cB, 6, none⟩) h.c6)]; exact h.c6, h.agn, h.tmn, h.ags.below hb, h.tms.below hb,
    fun j hj => ⟨by rw [hb.cell (p := ⟨A j, 2, none⟩) (h.a j hj).lt]; exact (h.a j hj).slug, by rw [hb.cell (p := ⟨A j, 5, none⟩) (h.a j hj).lt]; exact (h.a j hj).given, by rw [hb.cell (p := ⟨A j, 6, none⟩) (h.a j hj).lt]; exact (h.a j hj).rep,
      fun e => by rw [hb.cell (p := ⟨T j, 0, none⟩) (block_lt (a := ⟨T j, 0, none⟩) ((h.a j hj).txt e))]; exact (h.a j hj).txt e⟩,
    fun j hj => (h.t j hj).moved (hb.block _ (h.t j hj).lt) (fun h0 => hb.block _ ((h.t j hj).row.has.blk h0))⟩

/-- A row of the call's own as a slice. -/
theorem owns_has {w : World} {base : Nat} {e : TypeId} {s : Option Addr} {n c : Nat} {V : Nat → Value} (h : w.ownsRow base e 1 (.slice s n c) n ((List.range n).map V)) :
    (⟨s, n, c, (s.getD ⟨0, 0, none⟩).block, 0⟩ : Sl).Has w V := by
  have hl : n ≤ 9223372036854775807 := by
    rcases h.2 with ⟨_, h0⟩ | ⟨g, cap, cur, _, _, _, h1, h2, _⟩
    · omega
    · unfold maxLen at h2; omega
  refine ⟨fun i hi => ?_, hl⟩
  have hi : i < n := hi
  rcases h.2 with ⟨_, h0⟩ | ⟨g, cap, cur, hv, _, hg, h1, _, hcs, htake⟩
  · omega
  · cases hv
    refine ⟨rfl, ?_⟩
    have := h.cells (g := g) rfl i (V i) (by simp [hi])
    rw [Addr.add_lit, Nat.zero_add] at this
    show w.cell? ⟨g, 0 + i, none⟩ = some (V i)
    rw [Nat.zero_add]
    exact this
/-- The company lies at or above block B, all of it. -/
structure Above (B : Nat) (D : Dat) (cB : Nat) (ag tm : Sl) (A T Tm : Nat → Nat) (Y : Nat → Sl) : Prop where
  c : B ≤ cB
  ag : 0 < ag.n → B ≤ ag.b
  tm : 0 < tm.n → B ≤ tm.b
  a : ∀ j, j < D.n → B ≤ A j ∧ B ≤ T j
  t : ∀ j, j < D.K → B ≤ Tm j ∧ (0 < (Y j).n → B ≤ (Y j).b)

theorem Comp.turned {w w' : World} {cB B : Nat} {D : Dat} {ag tm : Sl} {A T Tm : Nat → Nat} {Y : Nat → Sl} (h : Comp w cB D ag tm A T Tm Y) (hA : Above B D cB ag tm A T Tm Y) (hb : ∀ b, B ≤ b → b < w.heap.size → w'.heap[b]? = w.heap[b]?) : Comp w' cB D ag tm A T Tm Y := by
  have hc := hb cB hA.c (block_lt (a := ⟨cB, 4, none⟩) h.c4)
  refine ⟨by rw [World.cell?_of_block (a := ⟨cB, 4, none⟩) hc]; exact h.c4, by rw [World.cell?_of_block (a := ⟨cB, 6, none⟩) hc]; exact h.c6, h.agn, h.tmn, h.ags.of_block (fun h0 => hb _ (hA.ag h0) (h.ags.blk h0)), h.tms.of_block (fun h0 => hb _ (hA.tm h0) (h.tms.blk h0)), fun j hj => ?_,
    fun j hj => (h.t j hj).moved (hb _ (hA.t j hj).1 (h.t j hj).lt) (fun h0 => hb _ ((hA.t j hj).2 h0) ((h.t j hj).row.has.blk h0))⟩
  have ha := hb _ (hA.a j hj).1 (h.a j hj).lt
  exact ⟨by rw [World.cell?_of_block (a := ⟨A j, 2, none⟩) ha]; exact (h.a j hj).slug, by rw [World.cell?_of_block (a := ⟨A j, 5, none⟩) ha]; exact (h.a j hj).given, by rw [World.cell?_of_block (a := ⟨A j, 6, none⟩) ha]; exact (h.a j hj).rep,
    fun e => by rw [World.cell?_of_block (a := ⟨T j, 0, none⟩) (hb _ (hA.a j hj).2 (block_lt (a := ⟨T j, 0, none⟩) ((h.a j hj).txt e)))]; exact (h.a j hj).txt e⟩

theorem owns_above {w : World} {base : Nat} {e : TypeId} {s : Option Addr} {n c : Nat} {V : Nat → Value} (h : w.ownsRow base e 1 (.slice s n c) n ((List.range n).map V)) (h0 : 0 < n) : base ≤ (s.getD ⟨0, 0, none⟩).block := by
  have e1 : s = some ⟨(s.getD ⟨0, 0, none⟩).block, 0, none⟩ := ((owns_has h).row 0 h0).1
  exact (h.lt (s.getD ⟨0, 0, none⟩).block (by rw [e1]; rfl)).1

end Go.Proofs.Qxb6601102a
