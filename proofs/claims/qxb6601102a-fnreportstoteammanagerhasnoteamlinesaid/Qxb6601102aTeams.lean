/-
  THE WALKS, K: place: the teams that name each agent, gathered: what one append makes of the rows.
-/
import Derived.Test.Qxb6601102aNote
namespace Go.Proofs.Qxb6601102a
open Go.RowKit

def ints (l : List Nat) : List Value := l.map fun k : Nat => .int .i64 (k : Int)

/-- The rows of 'teams': row i holds the numbers TL i, in memory of its own. -/
structure R3 (W1 : World) (tB n : Nat) (TL : Nat → List Nat) (ts : Nat → Option Addr) (tc : Nat → Nat) (wr : World) : Prop where
  outer : wr.rowIs tB 24 n fun i => .slice (ts i) (TL i).length (tc i)
  rows : ∀ i, i < n → wr.ownsRow (tB + 1) 3 1 (.slice (ts i) (TL i).length (tc i)) (TL i).length (ints (TL i))
  apart : ∀ i i', i < n → i' < n → i ≠ i' → ∀ b, (Value.slice (ts i) (TL i).length (tc i)).ownBlock = some b → (Value.slice (ts i') (TL i').length (tc i')).ownBlock ≠ some b
  bel : W1.grownBy wr (some tB)
  sz : W1.heap.size = tB + 1

theorem R3.next {W1 : World} {tB n : Nat} {TL : Nat → List Nat} {ts : Nat → Option Addr} {tc : Nat → Nat} {wr w2 : World} {i k : Nat} {s' : Option Addr} {c' : Nat} {o : Obj}
    (h : R3 W1 tB n TL ts tc wr) (hi : i < n) (hown : w2.ownsRow (tB + 1) 3 1 (.slice s' ((TL i).length + 1) c') ((TL i).length + 1) (ints (TL i) ++ [.int .i64 (k : Int)]))
    (hg : (wr.alloc o).grownBy w2 (Value.slice (ts i) (TL i).length (tc i)).ownBlock) (hnew : OldOrNew (wr.alloc o) (.slice (ts i) (TL i).length (tc i)) (.slice s' ((TL i).length + 1) c')) :
    R3 W1 tB n (fun x => if x = i then TL i ++ [k] else TL x) (fun x => if x = i then s' else ts x) (fun x => if x = i then c' else tc x) (w2.setCell ⟨tB, i, none⟩ (.slice s' ((TL i).length + 1) c')) := by
  have hlt := h.outer.lt
  have hsz := h.sz
  have hbs := h.bel.size
  have hownlt := (h.rows i hi).lt
  have hne0 : (Value.slice (ts i) (TL i).length (tc i)).ownBlock ≠ some tB := fun e => by have := (hownlt _ e).1; omega
  have hset : w2.grownBy (w2.setCell ⟨tB, i, none⟩ (.slice s' ((TL i).length + 1) c')) (some tB) := grownBy_setCell w2 ⟨tB, i, none⟩ _
  have hgs := hg.size
  rw [World.size_alloc] at hgs
  have ho2 : w2.rowIs tB 24 n fun i => .slice (ts i) (TL i).length (tc i) := (h.outer.alloc o).of_block (hg.block _ (by simp; omega) (fun e => hne0 e.symm))
  have hn0 : (Value.slice s' ((TL i).length + 1) c').ownBlock ≠ some tB := hnew.ne hne0 (by simp; omega)
  refine ⟨(ho2.set i _).congr fun x _ => ?_, fun x hx => ?_, fun x x' hx hx' hxx b hb => ?_, ?_, hsz⟩
  · by_cases e : x = i
    · subst e; simp
    · simp [e]
  · by_cases e : x = i
    · subst e
      simp only [if_pos, List.length_append, List.length_singleton]
      refine (World.ownsRow.kept (w' := w2.setCell ⟨tB, x, none⟩ (.slice s' ((TL x).length + 1) c')) (xs := ints (TL x ++ [k])) ?_ hset (Or.inr hn0))
      unfold ints at hown ⊢
      rw [List.map_append]
      exact hown
    · simp only [if_neg e]
      have hne : (Value.slice (ts x) (TL x).length (tc x)).ownBlock = none ∨ (Value.slice (ts x) (TL x).length (tc x)).ownBlock ≠ (Value.slice (ts i) (TL i).length (tc i)).ownBlock := by
        cases hv : (Value.slice (ts x) (TL x).length (tc x)).ownBlock with
        | none => exact Or.inl rfl
        | some b => exact Or.inr (fun e2 => h.apart x i hx hi e b hv e2.symm)
      refine (((h.rows x hx).alloc o).kept hg hne).kept hset (Or.inr fun e2 => ?_)
      have := ((h.rows x hx).lt _ e2).1
      omega
  · by_cases e : x = i
    · subst e
      simp only [if_pos, if_neg (fun h => hxx (Eq.symm h))] at hb ⊢
      simp only [List.length_append, List.length_singleton] at hb
      intro e2
      rcases hnew with h1 | h1
      · rw [h1] at hb
        exact h.apart x x' hx hx' hxx b hb e2
      · have h2 := h1 b hb
        have h3 := ((h.rows x' hx').lt _ e2).2
        simp at h2
        omega
    · by_cases e' : x' = i
      · subst e'
        simp only [if_neg e, if_pos] at hb ⊢
        simp only [List.length_append, List.length_singleton]
        exact hnew.ne (fun e2 => h.apart x' x hx' hx (fun h => e h.symm) b e2 hb) (by have := ((h.rows x hx).lt _ hb).2; simp; omega)
      · simp only [if_neg e, if_neg e'] at hb ⊢
        exact h.apart x x' hx hx' hxx b hb
  · refine ⟨hset.os.trans (hg.os.trans h.bel.os), hset.tape.trans (hg.tape.trans h.bel.tape), hset.output.trans (hg.output.trans h.bel.output), by have := hset.size; omega, fun b h1 h2 => ?_⟩
    rw [hset.block b (by omega) h2, hg.block b (by simp; omega) (fun e => by have := (hownlt _ e.symm).1; omega), Below.heap_alloc _ _ _ (by omega)]
    exact h.bel.block b h1 h2

/-! ### Which numbers they are -/
/-- k, as often as the first j entries of team k name agent i. -/
def rp (D : Dat) (k j i : Nat) : List Nat := ((List.range j).filter fun x => D.Z k x == (i : Int)).map fun _ => k
def tl (D : Dat) (k i : Nat) : List Nat := (List.range k).flatMap fun k' => rp D k' (D.nm k') i
theorem rp_succ (D : Dat) (k j i : Nat) : rp D k (j + 1) i = rp D k j i ++ (if D.Z k j = i then [k] else []) := by
  unfold rp
  rw [List.range_succ, List.filter_append, List.map_append]
  congr 1
  by_cases h : D.Z k j = i <;> simp [h]
theorem tl_succ (D : Dat) (k i : Nat) : tl D (k + 1) i = tl D k i ++ rp D k (D.nm k) i := by
  unfold tl
  rw [List.range_succ, List.flatMap_append]
  simp
theorem rp_len (D : Dat) (k j i : Nat) : (rp D k j i).length ≤ j := by
  unfold rp
  rw [List.length_map]
  exact Nat.le_trans (List.length_filter_le _ _) (by simp)
theorem tl_len (D : Dat) (k i : Nat) (h : ∀ x, x < k → D.nm x ≤ 1048576) : (tl D k i).length ≤ k * 1048576 := by
  induction k with
  | zero => simp [tl]
  | succ k ih =>
    rw [tl_succ, List.length_append]
    have h1 := ih fun x hx => h x (by omega)
    have h2 := rp_len D k (D.nm k) i
    have h3 := h k (by omega)
    omega
theorem tl_lt (D : Dat) (k i : Nat) : ∀ x ∈ tl D k i, x < k := by
  intro x hx
  unfold tl at hx
  obtain ⟨k', h1, h2⟩ := List.mem_flatMap.1 hx
  unfold rp at h2
  obtain ⟨_, _, rfl⟩ := List.mem_map.1 h2
  exact List.mem_range.1 h1
/-- The teams that name agent i, as far as the first k teams and the first j entries of team k tell. -/
def tj (D : Dat) (k j i : Nat) : List Nat := tl D k i ++ rp D k j i
theorem tj_zero (D : Dat) (i : Nat) : tj D 0 0 i = [] := rfl
theorem tj_next (D : Dat) (k : Nat) : tj D k (D.nm k) = tj D (k + 1) 0 := by
  funext i
  unfold tj
  rw [tl_succ]
  simp [rp]
theorem tj_end (D : Dat) (k i : Nat) : tj D k 0 i = tl D k i := by simp [tj, rp]
theorem tj_len (D : Dat) (k j i : Nat) (hk : k < 4096) (hj : j ≤ D.nm k) (h : ∀ x, x ≤ k → D.nm x ≤ 1048576) : (tj D k j i).length ≤ 4294967296 := by
  unfold tj
  rw [List.length_append]
  have h1 := tl_len D k i fun x hx => h x (by omega)
  have h2 := rp_len D k j i
  have h3 := h k (Nat.le_refl _)
  have h4 : k * 1048576 ≤ 4095 * 1048576 := Nat.mul_le_mul_right _ (by omega)
  omega
theorem tj_step (D : Dat) (k j i : Nat) (hz : D.Z k j = (i : Int)) : (fun x => if x = i then tj D k j i ++ [k] else tj D k j x) = tj D k (j + 1) := by
  funext x
  unfold tj
  rw [rp_succ]
  by_cases e : x = i
  · subst e
    simp [hz]
  · have : ¬ D.Z k j = (x : Int) := by rw [hz]; omega
    simp [e, this]
end Go.Proofs.Qxb6601102a
