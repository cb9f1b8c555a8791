/-
  Seat b6601041a: THE MASKS of a run, with no Go in it.
-/
import Derived.Test.Qxb6601041aPlainF
namespace Go.Proofs.Qxb6601041a

def upd (f : Nat → Nat) (i v : Nat) : Nat → Nat := fun x => if x = i then v else f x

/-- Row k of the masks Mk, of wd words, behind the first i characters. -/
def RowIs (C : Nat → Int) (nl : Nat) (Lf : Nat → Int) (wd : Nat) (Mk : Nat → Nat) (k i : Nat) : Prop :=
  ∀ p, p < 64 * wd → (bitAt (fun x => Mk (k * wd + x)) p = true ↔ p < i ∧ (C p = -1 ∨ (k < nl ∧ C p = Lf k)))

theorem row_zero (C : Nat → Int) (nl : Nat) (Lf : Nat → Int) (wd : Nat) (Mk : Nat → Nat) (k : Nat) (h : ∀ x, x < wd → Mk (k * wd + x) = 0) : RowIs C nl Lf wd Mk k 0 := by
  intro p hp
  unfold bitAt
  simp only []
  rw [h _ (by omega)]
  simp

theorem row_set {C : Nat → Int} {nl : Nat} {Lf : Nat → Int} {wd : Nat} {Mk : Nat → Nat} {k i : Nat} (h : RowIs C nl Lf wd Mk k i) (hok : C i = -1 ∨ (k < nl ∧ C i = Lf k)) :
    RowIs C nl Lf wd (upd Mk (k * wd + i / 64) (Mk (k * wd + i / 64) ||| 2 ^ (i % 64))) k (i + 1) := by
  intro p hp
  have h1 := h p hp
  unfold bitAt at h1 ⊢
  simp only [upd] at h1 ⊢
  by_cases hw : p / 64 = i / 64
  · rw [hw] at h1 ⊢
    simp only [if_true, Nat.testBit_or, Bool.or_eq_true, h1, Nat.testBit_two_pow, decide_eq_true_eq]
    by_cases hpi : p = i
    · subst hpi
      simp [hok]
    · have : ¬ i % 64 = p % 64 := by omega
      simp only [this, or_false]
      have e : p < i ↔ p < i + 1 := by omega
      rw [e]
  · rw [if_neg (by omega), h1]
    have e : p < i ↔ p < i + 1 := by omega
    rw [e]

theorem row_other {C : Nat → Int} {nl : Nat} {Lf : Nat → Int} {wd : Nat} {Mk : Nat → Nat} {k i : Nat} (h : RowIs C nl Lf wd Mk k i) (k0 x0 v : Nat) (hk : k ≠ k0) (hx : x0 < wd) :
    RowIs C nl Lf wd (upd Mk (k0 * wd + x0) v) k i := by
  intro p hp
  rw [← h p hp]
  unfold bitAt
  simp only [upd]
  have hne : ¬ k * wd + p / 64 = k0 * wd + x0 := by
    intro e
    have hp' : p / 64 < wd := by omega
    rcases Nat.lt_or_gt_of_ne hk with hlt | hgt
    · have := Nat.mul_le_mul_right wd (show k + 1 ≤ k0 by omega)
      rw [Nat.add_mul] at this
      omega
    · have := Nat.mul_le_mul_right wd (show k0 + 1 ≤ k by omega)
      rw [Nat.add_mul] at this
      omega
  rw [if_neg hne]

theorem row_pass {C : Nat → Int} {nl : Nat} {Lf : Nat → Int} {wd : Nat} {Mk : Nat → Nat} {k i : Nat} (h : RowIs C nl Lf wd Mk k i) (hno : ¬ (C i = -1 ∨ (k < nl ∧ C i = Lf k))) :
    RowIs C nl Lf wd Mk k (i + 1) := by
  intro p hp
  rw [h p hp]
  constructor
  · rintro ⟨h1, h2⟩
    exact ⟨by omega, h2⟩
  · rintro ⟨h1, h2⟩
    refine ⟨?_, h2⟩
    rcases Nat.lt_or_ge p i with h3 | h3
    · exact h3
    · obtain rfl : p = i := by omega
      exact (hno h2).elim

/-- The row of masks for the character c: her own, or the last. -/
def rowOf (nl : Nat) (Lf : Nat → Int) (c : Int) : Nat → Prop := fun k => (k < nl ∧ Lf k = c) ∨ (k = nl ∧ ∀ j, j < nl → Lf j ≠ c)

/-- What find asks of the masks. -/
theorem mask_says {C : Nat → Int} {nl : Nat} {Lf : Nat → Int} {wd : Nat} {Mk : Nat → Nat} {m : Nat} (hrows : ∀ k, k ≤ nl → RowIs C nl Lf wd Mk k m) (hin : ∀ p, p < m → C p ≠ -1 → ∃ k, k < nl ∧ Lf k = C p)
    {c : Int} {k : Nat} (hk : rowOf nl Lf c k) (p : Nat) (hp : p < 64 * wd) : bitAt (fun x => Mk (k * wd + x)) p = true ↔ p < m ∧ Ok C p c := by
  rcases hk with ⟨h1, h2⟩ | ⟨rfl, h2⟩
  · rw [hrows k (by omega) p hp, ← h2]
    unfold Ok
    simp only [h1, true_and]
  · rw [hrows k (Nat.le_refl _) p hp]
    unfold Ok
    constructor
    · rintro ⟨h3, h4 | h4⟩
      · exact ⟨h3, Or.inl h4⟩
      · omega
    · rintro ⟨h3, h4⟩
      refine ⟨h3, Or.inl ?_⟩
      rcases h4 with h4 | h4
      · exact h4
      · by_cases h5 : C p = -1
        · exact h5
        · obtain ⟨j, h6, h7⟩ := hin p h3 h5
          exact (h2 j h6 (h7.trans h4)).elim
end Go.Proofs.Qxb6601041a
