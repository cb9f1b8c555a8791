/-
  THE WALKS, D: zzCompanyB1: the company in memory; what a round of its first loop makes of it.
-/
import Derived.Test.Qxb6601102aAppend
namespace Go.Proofs.Qxb6601102a
open Go.RowKit

theorem grownBy_setCell (w : World) (a : Addr) (v : Value) : w.grownBy (w.setCell a v) (some a.block) :=
  ⟨rfl, rfl, rfl, by simp [World.setCell], fun k _ hk => Below.heap_setCell w a v k (fun e => hk (by rw [e]))⟩
theorem cell_grown {w w' : World} {row : Option Nat} {a : Addr} {v : Value} (hg : w.grownBy w' row) (h : w.cell? a = some v) (hne : row ≠ some a.block) : w'.cell? a = some v := hg.cell h (fun e => hne e.symm)

/-- An agent at block a: its slug, whether its line is given, the line itself (its text at block t). -/
structure AgAt (w : World) (a t : Nat) (s : ByteArray) (g hr : Bool) (rp : ByteArray) : Prop where
  slug : w.cell? ⟨a, 2, none⟩ = some (.string s)
  given : w.cell? ⟨a, 5, none⟩ = some (.bool g)
  rep : w.cell? ⟨a, 6, none⟩ = some (.pointer (if hr then some ⟨t, 0, none⟩ else none))
  txt : hr = true → w.cell? ⟨t, 0, none⟩ = some (.string rp)
theorem AgAt.moved {w w' : World} {a t : Nat} {s : ByteArray} {g hr : Bool} {rp : ByteArray} (h : AgAt w a t s g hr rp) (ha : w'.heap[a]? = w.heap[a]?) (ht : w'.heap[t]? = w.heap[t]?) : AgAt w' a t s g hr rp :=
  ⟨by rw [World.cell?_of_block (a := ⟨a, 2, none⟩) ha]; exact h.slug, by rw [World.cell?_of_block (a := ⟨a, 5, none⟩) ha]; exact h.given, by rw [World.cell?_of_block (a := ⟨a, 6, none⟩) ha]; exact h.rep,
    fun e => by rw [World.cell?_of_block (a := ⟨t, 0, none⟩) ht]; exact h.txt e⟩
theorem AgAt.lt {w : World} {a t : Nat} {s : ByteArray} {g hr : Bool} {rp : ByteArray} (h : AgAt w a t s g hr rp) : a < w.heap.size := block_lt (a := ⟨a, 2, none⟩) h.slug

/-- The company's seven cells. -/
def cCells (a t : Value) (j : Nat) : Value := if j = 4 then a else if j = 6 then t else if j = 5 then .map none else .string ByteArray.empty

def ptrs (A : Nat → Nat) (k : Nat) : List Value := (List.range k).map fun j => .pointer (some ⟨A j, 0, none⟩)
theorem ptrs_succ (A : Nat → Nat) (k a : Nat) : ptrs (fun j => if j = k then a else A j) (k + 1) = ptrs A k ++ [.pointer (some ⟨a, 0, none⟩)] := by
  unfold ptrs
  rw [List.range_succ, List.map_append]
  congr 1
  · apply List.map_congr_left
    intro j hj
    have hjk : ¬ j = k := by have := List.mem_range.1 hj; omega
    simp only [if_neg hjk]
  · simp

/-- zzCompanyB1 behind k rounds of its first loop. -/
structure R1 (w : World) (slug : Nat → ByteArray) (given hr : Nat → Bool) (rep : Nat → ByteArray) (k : Nat) (s : Option Addr) (c : Nat) (A T : Nat → Nat) (wr : World) : Prop where
  comp : wr.rowIs w.heap.size 78 7 (cCells (.slice s k c) (.slice none 0 0))
  own : wr.ownsRow (w.heap.size + 1) 86 1 (.slice s k c) k (ptrs A k)
  ag : ∀ j, j < k → AgAt wr (A j) (T j) (slug j) (given j) (hr j) (rep j) ∧ w.heap.size < A j ∧ w.heap.size < T j ∧ T j < wr.heap.size ∧ (Value.slice s k c).ownBlock ≠ some (A j) ∧ (Value.slice s k c).ownBlock ≠ some (T j)
  bel : Below w.heap.size w wr

theorem OldOrNew.ne {w : World} {v v' : Value} (hn : OldOrNew w v v') {b : Nat} (h1 : v.ownBlock ≠ some b) (h2 : b < w.heap.size) : v'.ownBlock ≠ some b := by
  rcases hn with h | h
  · rw [h]; exact h1
  · intro e
    have := h b e
    omega

theorem R1.next {w : World} {slug : Nat → ByteArray} {given hr : Nat → Bool} {rep : Nat → ByteArray} {k : Nat} {s : Option Addr} {c : Nat} {A T : Nat → Nat} {wr W w2 : World} {s' : Option Addr} {c' a t : Nat}
    (h : R1 w slug given hr rep k s c A T wr) (hb : Below wr.heap.size wr W) (hag : AgAt W a t (slug k) (given k) (hr k) (rep k)) (ha : wr.heap.size ≤ a) (ht : wr.heap.size ≤ t) (ht2 : t < W.heap.size)
    (hown : w2.ownsRow (w.heap.size + 1) 86 1 (.slice s' (k + 1) c') (k + 1) (ptrs A k ++ [.pointer (some ⟨a, 0, none⟩)])) (hg : W.grownBy w2 (Value.slice s k c).ownBlock) (hnew : OldOrNew W (.slice s k c) (.slice s' (k + 1) c')) :
    R1 w slug given hr rep (k + 1) s' c' (fun j => if j = k then a else A j) (fun j => if j = k then t else T j) (w2.setCell ⟨w.heap.size, 4, none⟩ (.slice s' (k + 1) c')) := by
  have hcl := h.comp.lt
  have hownlt := h.own.lt
  have hsz := hb.size
  have hown0 : (Value.slice s k c).ownBlock ≠ some w.heap.size := fun e => by have := (hownlt _ e).1; omega
  have hc2 : w2.rowIs w.heap.size 78 7 (cCells (.slice s k c) (.slice none 0 0)) := (h.comp.of_block (hb.block _ hcl)).of_block (hg.block _ (by omega) (fun e => hown0 e.symm))
  have hset : w2.grownBy (w2.setCell ⟨w.heap.size, 4, none⟩ (.slice s' (k + 1) c')) (some w.heap.size) := grownBy_setCell w2 ⟨w.heap.size, 4, none⟩ (.slice s' (k + 1) c')
  have hgs := hg.size
  -- a block that was there and is neither the company's nor the row's stays
  have stays : ∀ b, b < W.heap.size → (Value.slice s k c).ownBlock ≠ some b → b ≠ w.heap.size → (w2.setCell ⟨w.heap.size, 4, none⟩ (.slice s' (k + 1) c')).heap[b]? = W.heap[b]? := by
    intro b h1 h2 h3
    rw [hset.block b (by omega) (fun e => h3 (Option.some.inj e)), hg.block b h1 (fun e => h2 e.symm)]
  have hnk : ∀ b, wr.heap.size ≤ b → (Value.slice s k c).ownBlock ≠ some b := fun b h1 e => by have := (hownlt _ e).2; omega
  have halt := hag.lt
  refine ⟨(hc2.set 4 _).congr fun j _ => ?_, ?_, fun j hj => ?_, ?_⟩
  · unfold cCells
    by_cases e : j = 4
    · simp [e]
    · simp [e]
  · rw [ptrs_succ]
    refine hown.kept hset ?_
    right
    exact hnew.ne hown0 (by omega)
  · by_cases e : j = k
    · subst e
      simp only [if_pos]
      have h1 := hnk a ha
      have h2 := hnk t ht
      refine ⟨hag.moved (stays a halt h1 (by omega)) (stays t ht2 h2 (by omega)), by omega, by omega, ?_, ?_, ?_⟩
      · have := hset.size; omega
      · exact hnew.ne h1 halt
      · exact hnew.ne h2 ht2
    · simp only [if_neg e]
      obtain ⟨g1, g2, g3, g4, g5, g6⟩ := h.ag j (by omega)
      have g7 := g1.lt
      refine ⟨g1.moved ?_ ?_, g2, g3, ?_, ?_, ?_⟩
      · rw [stays _ (by omega) g5 (by omega)]; exact hb.block _ g7
      · rw [stays _ (by omega) g6 (by omega)]; exact hb.block _ g4
      · have := hset.size; omega
      · exact hnew.ne g5 (by omega)
      · exact hnew.ne g6 (by omega)
  · have hbw : Below w.heap.size w W := h.bel.trans (hb.mono h.bel.size)
    have hb2 : Below w.heap.size w w2 := hbw.grown hg (Nat.le_trans h.bel.size hsz) (fun g e => by have := (hownlt g e).1; omega)
    exact hb2.setCell (Nat.le_refl _) _
end Go.Proofs.Qxb6601102a
