/-
  The ranking model, plain: what its one pass keeps; it is 'dept'.
-/
import Derived.Test.Qxb6601102aDept
namespace Go.Proofs.Qxb6601102a
open Go.RowKit

/-- Team k's id is less than team l's. -/
def lsB (D : Dat) (k l : Nat) : Bool := decide (cmpS (D.ti k) (D.ti l) < 0)
theorem lsB_self (D : Dat) (k : Nat) : lsB D k k = false := by
  unfold lsB; exact decide_eq_false (cmpS_self _)

/-- The first of least id, one more looked at. -/
def fm (D : Dat) (o : Option Nat) (k : Nat) : Option Nat := match o with | none => some k | some m => if lsB D k m then some k else some m
theorem fm_twice (D : Dat) (o : Option Nat) (k : Nat) : fm D (fm D o k) k = fm D o k := by
  cases o with
  | none => simp [fm, lsB_self]
  | some m =>
    by_cases h : lsB D k m
    · simp [fm, h, lsB_self]
    · simp [fm, h]
theorem fm_some (D : Dat) (o : Option Nat) (k : Nat) : (fm D o k).isSome = true := by
  cases o with
  | none => rfl
  | some m => unfold fm; dsimp only; split <;> rfl

theorem mn_fold (D : Dat) (l : List Nat) : ∀ n, 0 < n → n ≤ l.length → (l.take n).foldl (fm D) none = some (mn D (zl l) n) := by
  intro n
  induction n with
  | zero => intro h; omega
  | succ n ih =>
    intro _ hn
    have hz : zl l n = l[n] := by unfold zl; rw [List.getD_eq_getElem?_getD, List.getElem?_eq_getElem (by omega)]; rfl
    rw [List.take_succ_eq_append_getElem (by omega), List.foldl_append]
    by_cases h0 : n = 0
    · subst h0
      simp only [List.take_zero, List.foldl_nil, List.foldl_cons]
      rw [mn_one, hz]
      rfl
    · rw [ih (by omega) (by omega)]
      simp only [List.foldl_nil, List.foldl_cons]
      rw [← hz]
      unfold fm lsB
      conv => rhs; unfold mn
      by_cases h : cmpS (D.ti (zl l n)) (D.ti (mn D (zl l) n)) < 0 <;> simp [h]
theorem mnL_fold (D : Dat) (l : List Nat) (h : 0 < l.length) : l.foldl (fm D) none = some (mnL D l) := by
  have := mn_fold D l l.length h (Nat.le_refl _)
  rwa [List.take_length] at this

/-- The first of least id among the first k teams that name agent i and that p picks. -/
def fp (D : Dat) (i : Nat) (p : Nat → Bool) (k : Nat) : Option Nat := ((tl D k i).filter p).foldl (fm D) none
theorem fold_rep (D : Dat) (k : Nat) : ∀ (n : Nat) (o : Option Nat), (List.replicate (n + 1) k).foldl (fm D) o = fm D o k
  | 0, o => rfl
  | n + 1, o => by
    rw [List.replicate_succ, List.foldl_cons, fold_rep D k n, fm_twice]
theorem rp_rep (D : Dat) (k j i : Nat) : rp D k j i = List.replicate (rp D k j i).length k := by
  unfold rp
  rw [List.eq_replicate_iff]
  exact ⟨rfl, fun b hb => by obtain ⟨_, _, rfl⟩ := List.mem_map.1 hb; rfl⟩
theorem rp_pos (D : Dat) (k j i : Nat) : 0 < (rp D k j i).length ↔ hasB j (D.Z k) (i : Int) = true := by
  rw [hasB_iff]
  unfold rp
  rw [List.length_map, List.length_pos_iff_exists_mem]
  constructor
  · rintro ⟨x, hx⟩
    obtain ⟨h1, h2⟩ := List.mem_filter.1 hx
    exact ⟨x, List.mem_range.1 h1, by simpa using h2⟩
  · rintro ⟨x, h1, h2⟩
    exact ⟨x, List.mem_filter.2 ⟨List.mem_range.2 h1, by simpa using h2⟩⟩
theorem fp_zero (D : Dat) (i : Nat) (p : Nat → Bool) : fp D i p 0 = none := rfl
theorem fp_no (D : Dat) (i : Nat) (p : Nat → Bool) (k : Nat) (h : hasB (D.nm k) (D.Z k) (i : Int) = false ∨ p k = false) : fp D i p (k + 1) = fp D i p k := by
  unfold fp
  rw [tl_succ, List.filter_append]
  have : (rp D k (D.nm k) i).filter p = [] := by
    rw [List.filter_eq_nil_iff]
    intro a ha
    rcases h with h | h
    · have : 0 < (rp D k (D.nm k) i).length := List.length_pos_of_mem ha
      rw [rp_pos, h] at this
      cases this
    · rw [rp_rep] at ha
      rw [List.eq_of_mem_replicate ha, h]
      simp
  rw [this, List.append_nil]
theorem fp_yes (D : Dat) (i : Nat) (p : Nat → Bool) (k : Nat) (h1 : hasB (D.nm k) (D.Z k) (i : Int) = true) (h2 : p k = true) : fp D i p (k + 1) = fm D (fp D i p k) k := by
  unfold fp
  rw [tl_succ, List.filter_append, List.foldl_append]
  have hp := (rp_pos D k (D.nm k) i).2 h1
  have hf : (rp D k (D.nm k) i).filter p = rp D k (D.nm k) i := by
    rw [List.filter_eq_self]
    intro a ha
    rw [rp_rep] at ha
    rw [List.eq_of_mem_replicate ha, h2]
  rw [hf, rp_rep]
  obtain ⟨n, hn⟩ : ∃ n, (rp D k (D.nm k) i).length = n + 1 := ⟨(rp D k (D.nm k) i).length - 1, by omega⟩
  rw [hn, fold_rep]

def t0 (D : Dat) (i k : Nat) : Bool := D.M k == (i : Int)
def t1 (D : Dat) (i k : Nat) : Bool := !t0 D i k && under D i k
def t2 (D : Dat) (i k : Nat) : Bool := !t0 D i k && !under D i k
def tier (D : Dat) (i k : Nat) : Nat := if t0 D i k then 0 else if under D i k then 1 else 2

/-- The best team and its tier behind k teams. -/
def best (D : Dat) (i k : Nat) : Option (Nat × Nat) :=
  match fp D i (t0 D i) k with
  | some m => some (m, 0)
  | none => match fp D i (t1 D i) k with
    | some m => some (m, 1)
    | none => match fp D i (t2 D i) k with
      | some m => some (m, 2)
      | none => none

/-- One step of the pass. -/
def stepM (D : Dat) (i k : Nat) (o : Option (Nat × Nat)) : Option (Nat × Nat) :=
  match o with
  | none => some (k, tier D i k)
  | some (m, t) => if tier D i k < t ∨ (tier D i k = t ∧ lsB D k m = true) then some (k, tier D i k) else some (m, t)

theorem best_skip (D : Dat) (i k : Nat) (h : hasB (D.nm k) (D.Z k) (i : Int) = false) : best D i (k + 1) = best D i k := by
  unfold best
  rw [fp_no D i _ k (Or.inl h), fp_no D i _ k (Or.inl h), fp_no D i _ k (Or.inl h)]

theorem best_step (D : Dat) (i k : Nat) (h : hasB (D.nm k) (D.Z k) (i : Int) = true) : best D i (k + 1) = stepM D i k (best D i k) := by
  by_cases h0 : t0 D i k = true
  · have e1 : t1 D i k = false := by simp [t1, h0]
    have e2 : t2 D i k = false := by simp [t2, h0]
    have et : tier D i k = 0 := by simp [tier, h0]
    unfold best
    rw [fp_yes D i (t0 D i) k h h0, fp_no D i (t1 D i) k (Or.inr e1), fp_no D i (t2 D i) k (Or.inr e2)]
    unfold stepM
    rw [et]
    rcases fp D i (t0 D i) k with _ | m
    · rcases fp D i (t1 D i) k with _ | m1
      · rcases fp D i (t2 D i) k with _ | m2 <;> simp [fm]
      · simp [fm]
    · by_cases hl : lsB D k m <;> simp [fm, hl]
  · have h0' : t0 D i k = false := by simpa using h0
    by_cases h1 : under D i k = true
    · have e1 : t1 D i k = true := by simp [t1, h0', h1]
      have e2 : t2 D i k = false := by simp [t2, h1]
      have et : tier D i k = 1 := by simp [tier, h0', h1]
      unfold best
      rw [fp_no D i (t0 D i) k (Or.inr h0'), fp_yes D i (t1 D i) k h e1, fp_no D i (t2 D i) k (Or.inr e2)]
      unfold stepM
      rw [et]
      rcases fp D i (t0 D i) k with _ | m
      · rcases fp D i (t1 D i) k with _ | m1
        · rcases fp D i (t2 D i) k with _ | m2 <;> simp [fm]
        · by_cases hl : lsB D k m1 <;> simp [fm, hl]
      · simp
    · have h1' : under D i k = false := by simpa using h1
      have e1 : t1 D i k = false := by simp [t1, h1']
      have e2 : t2 D i k = true := by simp [t2, h0', h1']
      have et : tier D i k = 2 := by simp [tier, h0', h1']
      unfold best
      rw [fp_no D i (t0 D i) k (Or.inr h0'), fp_no D i (t1 D i) k (Or.inr e1), fp_yes D i (t2 D i) k h e2]
      unfold stepM
      rw [et]
      rcases fp D i (t0 D i) k with _ | m
      · rcases fp D i (t1 D i) k with _ | m1
        · rcases fp D i (t2 D i) k with _ | m2
          · simp [fm]
          · by_cases hl : lsB D k m2 <;> simp [fm, hl]
        · simp
      · simp

def bestI (o : Option (Nat × Nat)) : Int := match o with | none => -1 | some (m, _) => m
def tierI (o : Option (Nat × Nat)) : Nat := match o with | none => 0 | some (_, t) => t

theorem fp_none {D : Dat} {i : Nat} {p : Nat → Bool} : fp D i p D.K = none ↔ ((named D i).filter p).length = 0 := by
  unfold fp named
  constructor
  · intro h
    rcases Nat.eq_zero_or_pos ((tl D D.K i).filter p).length with h0 | h0
    · exact h0
    · rw [mnL_fold D _ h0] at h; cases h
  · intro h
    rw [List.length_eq_zero_iff.1 h]; rfl
theorem fp_mnL {D : Dat} {i : Nat} {p : Nat → Bool} (h : 0 < ((named D i).filter p).length) : fp D i p D.K = some (mnL D ((named D i).filter p)) := mnL_fold D _ h

theorem filter_same {p q : Nat → Bool} {l : List Nat} (h : ∀ k ∈ l, p k = q k) : l.filter p = l.filter q := List.filter_congr h

theorem dept_best (D : Dat) (i : Nat) : dept D i = bestI (best D i D.K) := by
  have em : managed D i = (named D i).filter (t0 D i) := filter_same fun k _ => by simp [p44, t0, bne]
  have eu : underM D i = (named D i).filter (under D i) := filter_same fun k _ => by simp [p45]
  unfold dept
  rw [em, eu]
  by_cases hn : (named D i).length = 0
  · rw [if_pos hn]
    have hnil := List.length_eq_zero_iff.1 hn
    have f : ∀ p, fp D i p D.K = none := fun p => fp_none.2 (by rw [hnil]; rfl)
    unfold best
    rw [f, f, f]
    rfl
  · rw [if_neg hn]
    by_cases h0 : 0 < ((named D i).filter (t0 D i)).length
    · rw [if_pos h0]
      unfold best
      rw [fp_mnL h0]
      rfl
    · rw [if_neg h0]
      have hz : ((named D i).filter (t0 D i)).length = 0 := by omega
      have hall : ∀ k ∈ named D i, t0 D i k = false := by
        intro k hk
        have := List.filter_eq_nil_iff.1 (List.length_eq_zero_iff.1 hz) k hk
        simpa using this
      have f0 : fp D i (t0 D i) D.K = none := fp_none.2 hz
      have e1 : (named D i).filter (under D i) = (named D i).filter (t1 D i) := filter_same fun k hk => by simp [t1, hall k hk]
      rw [e1]
      unfold best
      rw [f0]
      by_cases h1 : ((named D i).filter (t1 D i)).length = 0
      · rw [if_pos h1]
        have f1 : fp D i (t1 D i) D.K = none := fp_none.2 h1
        rw [f1]
        have hall1 : ∀ k ∈ named D i, t2 D i k = true := by
          intro k hk
          have h2 := List.filter_eq_nil_iff.1 (List.length_eq_zero_iff.1 h1) k hk
          simp [t1, hall k hk] at h2
          simp [t2, hall k hk, h2]
        have e2 : (named D i).filter (t2 D i) = named D i := List.filter_eq_self.2 hall1
        rw [fp_mnL (p := t2 D i) (by rw [e2]; omega), e2]
        rfl
      · rw [if_neg h1, fp_mnL (p := t1 D i) (by omega)]
        rfl
end Go.Proofs.Qxb6601102a
