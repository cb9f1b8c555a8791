/-
  The second law, plain: every seat is in a team that names the agent; notes and seats together are all memberships where no team names an agent twice.
-/
import Derived.Test.Qxb6601102aDrop
import Derived.Test.Qxb6601102aModel
namespace Go.Proofs.Qxb6601102a
open Go.RowKit

theorem mem_named {D : Dat} {i k : Nat} (h : k ∈ named D i) : k < D.K ∧ hasB (D.nm k) (D.Z k) (i : Int) = true := by
  refine ⟨named_lt D i k h, ?_⟩
  unfold named tl at h
  obtain ⟨k', h1, h2⟩ := List.mem_flatMap.1 h
  have e : k = k' := by
    rw [rp_rep] at h2
    exact List.eq_of_mem_replicate h2
  subst e
  exact (rp_pos D k (D.nm k) i).1 (List.length_pos_of_mem h2)
theorem named_mem {D : Dat} {i k : Nat} (hk : k < D.K) (h : hasB (D.nm k) (D.Z k) (i : Int) = true) : k ∈ named D i := by
  unfold named tl
  refine List.mem_flatMap.2 ⟨k, List.mem_range.2 hk, ?_⟩
  have := (rp_pos D k (D.nm k) i).2 h
  rw [rp_rep]
  rw [List.mem_replicate]
  exact ⟨by omega, rfl⟩
theorem mnL_mem (D : Dat) {l : List Nat} (h : 0 < l.length) : mnL D l ∈ l := by
  obtain ⟨j, hj, e⟩ := mn_mem D (zl l) _ h
  unfold mnL
  rw [e]
  exact zl_mem hj
theorem dept_cases (D : Dat) (i : Nat) : (dept D i = -1 ∧ named D i = []) ∨ ∃ k : Nat, dept D i = k ∧ k ∈ named D i := by
  unfold dept
  by_cases h0 : (named D i).length = 0
  · rw [if_pos h0]; exact Or.inl ⟨rfl, List.length_eq_zero_iff.1 h0⟩
  · right
    rw [if_neg h0]
    by_cases h1 : 0 < (managed D i).length
    · rw [if_pos h1]; exact ⟨_, rfl, (List.mem_filter.1 (mnL_mem D h1)).1⟩
    · rw [if_neg h1]
      by_cases h2 : (underM D i).length = 0
      · rw [if_pos h2]; exact ⟨_, rfl, mnL_mem D (by omega)⟩
      · rw [if_neg h2]; exact ⟨_, rfl, (List.mem_filter.1 (mnL_mem D (Nat.pos_of_ne_zero h2))).1⟩
theorem dept_none {D : Dat} {i : Nat} (h : dept D i = -1) (k : Nat) (hk : k < D.K) : hasB (D.nm k) (D.Z k) (i : Int) = false := by
  rcases dept_cases D i with ⟨_, h1⟩ | ⟨k', h1, _⟩
  · cases e : hasB (D.nm k) (D.Z k) (i : Int) with
    | false => rfl
    | true =>
      have := named_mem hk e
      rw [h1] at this
      cases this
  · rw [h] at h1; omega
theorem dept_some {D : Dat} {i : Nat} (h : dept D i ≠ -1) : ∃ k : Nat, dept D i = k ∧ k < D.K ∧ hasB (D.nm k) (D.Z k) (i : Int) = true := by
  rcases dept_cases D i with ⟨h1, _⟩ | ⟨k, h1, h2⟩
  · exact absurd h1 h
  · exact ⟨k, h1, mem_named h2⟩

def sumR (f : Nat → Nat) : Nat → Nat
  | 0 => 0
  | n + 1 => sumR f n + f n
theorem sumR_congr {f g : Nat → Nat} {n : Nat} (h : ∀ i, i < n → f i = g i) : sumR f n = sumR g n := by
  induction n with
  | zero => rfl
  | succ n ih => unfold sumR; rw [ih fun i hi => h i (by omega), h n (by omega)]
theorem sumR_add (f g : Nat → Nat) (n : Nat) : sumR (fun i => f i + g i) n = sumR f n + sumR g n := by
  induction n with
  | zero => rfl
  | succ n ih => unfold sumR; rw [ih]; omega
theorem sumR_zero (n : Nat) : sumR (fun _ => 0) n = 0 := by
  induction n with
  | zero => rfl
  | succ n ih => unfold sumR; rw [ih]
theorem sumR_swap (f : Nat → Nat → Nat) (m n : Nat) : sumR (fun k => sumR (f k) n) m = sumR (fun i => sumR (fun k => f k i) m) n := by
  induction m with
  | zero => exact (sumR_zero n).symm
  | succ m ih =>
    show sumR (fun k => sumR (f k) n) m + sumR (f m) n = sumR (fun i => sumR (fun k => f k i) m + f m i) n
    rw [sumR_add, ih]
theorem sumR_one (a : Nat) (f : Nat → Nat) (n : Nat) : sumR (fun i => if a = i then f i else 0) n = if a < n then f a else 0 := by
  induction n with
  | zero => rfl
  | succ n ih =>
    unfold sumR
    rw [ih]
    by_cases e : a = n
    · subst e; simp
    · rw [if_neg e]
      by_cases h : a < n
      · rw [if_pos h, if_pos (by omega)]; omega
      · rw [if_neg h, if_neg (by omega)]
theorem sumR_le {f : Nat → Nat} {n c : Nat} (h : ∀ i, i < n → f i ≤ c) : sumR f n ≤ n * c := by
  induction n with
  | zero => simp [sumR]
  | succ n ih =>
    unfold sumR
    have h1 := ih fun i hi => h i (by omega)
    have h2 := h n (by omega)
    rw [Nat.succ_mul]
    omega

/-- How many of the first m of z are i. -/
def cnt (z : Nat → Nat) (i m : Nat) : Nat := sumR (fun j => if z j = i then 1 else 0) m
theorem cnt_zero {z : Nat → Nat} {i m : Nat} (h : ∀ j, j < m → z j ≠ i) : cnt z i m = 0 := by
  unfold cnt
  rw [sumR_congr (g := fun _ => 0) (fun j hj => if_neg (h j hj)), sumR_zero]
theorem cnt_one {z : Nat → Nat} {i m : Nat} (hex : ∃ j, j < m ∧ z j = i) (hu : ∀ j j', j < m → j' < m → z j = z j' → j = j') : cnt z i m = 1 := by
  obtain ⟨j, hj, e⟩ := hex
  unfold cnt
  rw [sumR_congr (g := fun j' => if j = j' then 1 else 0) (fun j' hj' => ?_), sumR_one j (fun _ => 1), if_pos hj]
  by_cases h : j = j'
  · subst h; rw [if_pos e, if_pos rfl]
  · rw [if_neg h, if_neg (fun e2 => h (hu j j' hj hj' (by rw [e, e2])))]
/-- A count over places as a sum over values. -/
theorem count_by {p : Nat → Bool} {z : Nat → Nat} {n : Nat} : ∀ m, (∀ j, j < m → z j < n) → sumR (fun j => if p (z j) then 1 else 0) m = sumR (fun i => if p i then cnt z i m else 0) n
  | 0, _ => by
    rw [sumR_congr (f := fun i => if p i then cnt z i 0 else 0) (g := fun _ => 0) (fun i _ => by simp [cnt, sumR]), sumR_zero]; rfl
  | m + 1, h => by
    have ih := count_by (p := p) m fun j hj => h j (by omega)
    have e : sumR (fun i => if p i then cnt z i (m + 1) else 0) n = sumR (fun i => (if p i then cnt z i m else 0) + (if z m = i then (if p i then 1 else 0) else 0)) n := sumR_congr fun i _ => by
      show (if p i then cnt z i m + (if z m = i then 1 else 0) else 0) = _
      by_cases hp : p i <;> by_cases hz : z m = i <;> simp [hp, hz]
    rw [e, sumR_add, ← ih, sumR_one, if_pos (h m (by omega))]
    rfl

def seat (D : Dat) (i : Nat) : Nat := if dept D i = -1 then 0 else 1
theorem dr_here (D : Dat) (k m : Nat) : (dr D k m).length + sumR (fun j => if away D k j then 0 else 1) m = m := by
  induction m with
  | zero => rfl
  | succ m ih =>
    rw [dr_succ, List.length_append]
    unfold sumR
    by_cases h : away D k m
    · simp only [h, if_true, List.length_singleton]; omega
    · simp [h]; omega
theorem dl_sum (D : Dat) (k : Nat) : (dl D k).length + sumR (fun x => sumR (fun j => if away D x j then 0 else 1) (D.nm x)) k = sumR D.nm k := by
  induction k with
  | zero => rfl
  | succ k ih =>
    rw [dl_succ, List.length_append]
    unfold sumR
    have := dr_here D k (D.nm k)
    omega

theorem seats (D : Dat) (hZ : ∀ k, k < D.K → ∀ j, j < D.nm k → 0 ≤ D.Z k j ∧ D.Z k j < D.n) (hR : ∀ k, k < D.K → ∀ j j', j < D.nm k → j' < D.nm k → D.Z k j = D.Z k j' → j = j') :
    (dl D D.K).length + sumR (seat D) D.n = sumR D.nm D.K := by
  have h1 := dl_sum D D.K
  have h2 : sumR (fun x => sumR (fun j => if away D x j then 0 else 1) (D.nm x)) D.K = sumR (fun k => sumR (fun i => if dept D i = (k : Int) then 1 else 0) D.n) D.K := sumR_congr fun k hk => by
    have ez : sumR (fun j => if away D k j then 0 else 1) (D.nm k) = sumR (fun j => if (fun i => decide (dept D i = (k : Int))) ((fun j => (D.Z k j).toNat) j) then 1 else 0) (D.nm k) := sumR_congr fun j _ => by
      unfold away
      by_cases e : dept D (D.Z k j).toNat = (k : Int) <;> simp [e]
    refine ez.trans ((count_by (p := fun i => decide (dept D i = (k : Int))) (z := fun j => (D.Z k j).toNat) (D.nm k) (n := D.n) (fun j hj => by have := hZ k hk j hj; show (D.Z k j).toNat < D.n; omega)).trans ?_)
    refine sumR_congr fun i hi => ?_
    by_cases e : dept D i = (k : Int)
    · simp only [e, decide_true, if_true]
      obtain ⟨k', e1, e2, e3⟩ := dept_some (D := D) (i := i) (by omega)
      have : k' = k := by omega
      subst this
      obtain ⟨j, hj, hzj⟩ := hasB_iff.1 e3
      refine cnt_one ⟨j, hj, by show (D.Z k' j).toNat = i; omega⟩ fun a b ha hb hab => hR k' hk a b ha hb ?_
      have := hZ k' hk a ha
      have := hZ k' hk b hb
      have hab : (D.Z k' a).toNat = (D.Z k' b).toNat := hab
      omega
    · simp [e]
  have h3 : sumR (fun k => sumR (fun i => if dept D i = (k : Int) then 1 else 0) D.n) D.K = sumR (seat D) D.n := by
    rw [sumR_swap]
    refine sumR_congr fun i _ => ?_
    unfold seat
    by_cases e : dept D i = -1
    · rw [if_pos e, sumR_congr (g := fun _ => 0) (fun k _ => if_neg (by omega)), sumR_zero]
    · rw [if_neg e]
      obtain ⟨k', e1, e2, _⟩ := dept_some e
      rw [sumR_congr (g := fun k => if k' = k then 1 else 0) (fun k _ => by
        by_cases h : k' = k
        · rw [if_pos h, if_pos (by omega)]
        · rw [if_neg h, if_neg (by omega)]), sumR_one k' (fun _ => 1), if_pos e2]
  omega
end Go.Proofs.Qxb6601102a
