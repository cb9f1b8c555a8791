/-
  Seat b6601041a: WHAT find COMPUTES, with no Go in it: bits of a state of words, and the leftmost fit.
-/
namespace Go.Proofs.Qxb6601041a

/-- Character p of the run lets the character c pass. -/
def Ok (C : Nat → Int) (p : Nat) (c : Int) : Prop := C p = -1 ∨ C p = c

/-- The run of m characters C fits V at s. -/
def Fit (m : Nat) (C V : Nat → Int) (s : Nat) : Prop := ∀ p, p < m → Ok C p (V (s + p))

/-- A word may begin at i; may end before i. -/
def Beg (W : Nat → Bool) (i : Nat) : Prop := i = 0 ∨ W (i - 1) = false
def Fin (n : Nat) (W : Nat → Bool) (i : Nat) : Prop := i = n ∨ W i = false

/-- A beginning that find may answer for. -/
structure Good (m : Nat) (C : Nat → Int) (n : Nat) (V : Nat → Int) (W : Nat → Bool) (fr : Nat) (st en : Bool) (s : Nat) : Prop where
  fr : fr ≤ s
  le : s + m ≤ n
  st : st = true → Beg W s
  en : en = true → Fin n W (s + m)
  fit : Fit m C V s

/-- find's answer. -/
def Found (m : Nat) (C : Nat → Int) (n : Nat) (V : Nat → Int) (W : Nat → Bool) (fr : Nat) (st en : Bool) (e : Int) (ok : Bool) : Prop :=
  (ok = true ∧ ∃ s : Nat, Good m C n V W fr st en s ∧ e = (s : Int) + m ∧ ∀ s', Good m C n V W fr st en s' → s ≤ s') ∨
  (ok = false ∧ e = 0 ∧ ∀ s, ¬ Good m C n V W fr st en s)

/-- Bit i of a row of words. -/
def bitAt (S : Nat → Nat) (i : Nat) : Bool := (S (i / 64)).testBit (i % 64)

/-- The state's word behind one character. -/
def stepW (S M : Nat → Nat) (c : Nat) (w : Nat) : Nat := ((S w * 2) % 18446744073709551616 ||| (if w = 0 then c else S (w - 1) / 9223372036854775808)) &&& M w

theorem stepW_lt (S M : Nat → Nat) (c w : Nat) (hM : M w < 18446744073709551616) : stepW S M c w < 18446744073709551616 :=
  Nat.lt_of_le_of_lt Nat.and_le_right hM

theorem bitAt_stepW (S M : Nat → Nat) (c : Nat) (hc : c = 0 ∨ c = 1) (hS : ∀ w, S w < 18446744073709551616) (i : Nat) :
    bitAt (stepW S M c) i = ((if i = 0 then decide (c = 1) else bitAt S (i - 1)) && bitAt M i) := by
  unfold bitAt stepW
  rw [Nat.testBit_and, Nat.testBit_or]
  congr 1
  have e64 : (18446744073709551616 : Nat) = 2 ^ 64 := by decide
  have e63 : (9223372036854775808 : Nat) = 2 ^ 63 := by decide
  rw [e64, Nat.testBit_mod_two_pow, show S (i / 64) * 2 = 2 ^ 1 * S (i / 64) by omega, Nat.testBit_two_pow_mul]
  have hm : i % 64 < 64 := Nat.mod_lt _ (by decide)
  by_cases h0 : i = 0
  · subst h0
    rcases hc with rfl | rfl <;> simp
  · by_cases hb : i % 64 = 0
    · have hw : i / 64 ≠ 0 := by omega
      have h1 : (i - 1) / 64 = i / 64 - 1 := by omega
      have h2 : (i - 1) % 64 = 63 := by omega
      simp only [if_neg h0, if_neg hw, hb, h1, h2, e63]
      rw [← Nat.shiftRight_eq_div_pow, Nat.testBit_shiftRight]
      simp
    · have h1 : (i - 1) / 64 = i / 64 := by omega
      have h2 : (i - 1) % 64 = i % 64 - 1 := by omega
      have hz : (if i / 64 = 0 then c else S (i / 64 - 1) / 9223372036854775808).testBit (i % 64) = false := by
        apply Nat.testBit_lt_two_pow
        have h3 : (if i / 64 = 0 then c else S (i / 64 - 1) / 9223372036854775808) < 2 := by
          split
          · omega
          · have := hS (i / 64 - 1)
            omega
        exact Nat.lt_of_lt_of_le h3 (by
          have := Nat.pow_le_pow_right (n := 2) (by decide) (show 1 ≤ i % 64 by omega)
          omega)
      rw [hz]
      simp only [if_neg h0, h1, h2, hm, decide_true, Bool.true_and, Bool.or_false]
      simp [show 1 ≤ i % 64 by omega]

theorem zero_of_bits (S : Nat → Nat) (wd : Nat) (hS : ∀ w, S w < 18446744073709551616) (h : ∀ i, i < 64 * wd → bitAt S i = false) (w : Nat) (hw : w < wd) : S w = 0 := by
  apply Nat.eq_of_testBit_eq
  intro b
  rw [Nat.zero_testBit]
  by_cases hb : b < 64
  · have h1 := h (64 * w + b) (by omega)
    unfold bitAt at h1
    rwa [show (64 * w + b) / 64 = w by omega, show (64 * w + b) % 64 = b by omega] at h1
  · apply Nat.testBit_lt_two_pow
    exact Nat.lt_of_lt_of_le (hS w) (by
      have := Nat.pow_le_pow_right (n := 2) (by decide) (show 64 ≤ b by omega)
      simpa using this)

theorem bits_of_zero (S : Nat → Nat) (wd : Nat) (h : ∀ w, w < wd → S w = 0) (i : Nat) (hi : i < 64 * wd) : bitAt S i = false := by
  unfold bitAt
  rw [h _ (by omega)]
  simp

/-- What the state's bit i says at j. -/
structure Part (m : Nat) (C V : Nat → Int) (W : Nat → Bool) (fr : Nat) (st : Bool) (j i : Nat) : Prop where
  lt : i < m
  fr : fr + i < j
  st : st = true → Beg W (j - 1 - i)
  fit : ∀ p, p ≤ i → Ok C p (V (j - 1 - i + p))

/-- The loop's head at j. -/
structure Head (m : Nat) (C : Nat → Int) (n : Nat) (V : Nat → Int) (W : Nat → Bool) (fr : Nat) (st en : Bool) (wd : Nat) (S : Nat → Nat) (j : Nat) : Prop where
  bits : ∀ i, i < 64 * wd → (bitAt S i = true ↔ Part m C V W fr st j i)
  none : ∀ s, Good m C n V W fr st en s → j < s + m

theorem head_begin {m : Nat} {C : Nat → Int} {n : Nat} {V : Nat → Int} {W : Nat → Bool} {st en : Bool} {wd : Nat} {S : Nat → Nat} (j : Nat) (hm : 0 < m) (h0 : ∀ w, w < wd → S w = 0) :
    Head m C n V W j st en wd S j := by
  refine ⟨fun i hi => ?_, fun s h => ?_⟩
  · rw [bits_of_zero S wd h0 i hi]
    simp only [Bool.false_eq_true, false_iff]
    intro h
    have := h.fr
    omega
  · have := h.fr
    omega

/-- With no bit set, no part begins behind: a character that is not the first one's can be passed over. -/
theorem head_skip {m : Nat} {C : Nat → Int} {n : Nat} {V : Nat → Int} {W : Nat → Bool} {fr : Nat} {st en : Bool} {wd : Nat} {S : Nat → Nat} {j : Nat} (h : Head m C n V W fr st en wd S j) (hm : 0 < m) (hmw : m ≤ 64 * wd)
    (hz : ∀ w, w < wd → S w = 0) (hlead : C 0 ≠ -1) (k : Nat) (hk : ∀ t, t < k → V (j + t) ≠ C 0) : Head m C n V W fr st en wd S (j + k) := by
  have hb := bits_of_zero S wd hz
  rcases Nat.eq_zero_or_pos k with rfl | hk0
  · exact h
  -- no beginning before j + k lives
  have key : ∀ s : Nat, fr ≤ s → s < j + k → (st = true → Beg W s) → (∀ p, p < m → s + p < j + k → Ok C p (V (s + p))) → j < s + m → False := by
    intro s h1 h2 h3 h4 h5
    by_cases hsj : j ≤ s
    · have h6 := h4 0 hm (by omega)
      have h7 := hk (s - j) (by omega)
      rw [show j + (s - j) = s + 0 by omega] at h7
      rcases h6 with h6 | h6
      · exact hlead h6
      · exact h7 h6.symm
    · have h6 := (h.bits (j - 1 - s) (by omega)).2 ⟨by omega, by omega, by rw [show j - 1 - (j - 1 - s) = s by omega]; exact h3, fun p hp => by
        rw [show j - 1 - (j - 1 - s) = s by omega]
        exact h4 p (by omega) (by omega)⟩
      rw [hb _ (by omega)] at h6
      exact absurd h6 (by simp)
  refine ⟨fun i hi => ?_, fun s hg => ?_⟩
  · rw [hb i hi]
    simp only [Bool.false_eq_true, false_iff]
    intro hp
    have h1 := hp.fr
    have h2 := hp.lt
    by_cases hjm : j < j + k - 1 - i + m
    · exact key (j + k - 1 - i) (by omega) (by omega) hp.st (fun p hpm hlt => hp.fit p (by omega)) hjm
    · omega
  · have h1 := h.none s hg
    by_cases h2 : j + k < s + m
    · exact h2
    · exact (key s hg.fr (by omega) hg.st (fun p hpm _ => hg.fit p hpm) h1).elim

/-- One character. -/
theorem head_step {m : Nat} {C : Nat → Int} {n : Nat} {V : Nat → Int} {W : Nat → Bool} {fr : Nat} {st en : Bool} {wd : Nat} {S M : Nat → Nat} {j : Nat} (h : Head m C n V W fr st en wd S j) (hfr : fr ≤ j)
    (hS : ∀ w, S w < 18446744073709551616) (hM : ∀ i, i < 64 * wd → (bitAt M i = true ↔ i < m ∧ Ok C i (V j))) (c : Nat) (hc : c = 0 ∨ c = 1) (hc1 : c = 1 ↔ (st = true → Beg W j)) :
    ∀ i, i < 64 * wd → (bitAt (stepW S M c) i = true ↔ Part m C V W fr st (j + 1) i) := by
  intro i hi
  rw [bitAt_stepW S M c hc hS, Bool.and_eq_true, hM i hi]
  by_cases h0 : i = 0
  · subst h0
    simp only [if_true, decide_eq_true_eq, hc1]
    constructor
    · rintro ⟨h1, h2, h3⟩
      exact ⟨h2, by omega, by simpa using h1, fun p hp => by
        obtain rfl : p = 0 := by omega
        simpa using h3⟩
    · intro hp
      exact ⟨by simpa using hp.st, hp.lt, by simpa using hp.fit 0 (Nat.le_refl _)⟩
  · rw [if_neg h0, h.bits (i - 1) (by omega)]
    constructor
    · rintro ⟨h1, h2, h3⟩
      have h4 := h1.fr
      refine ⟨h2, by omega, ?_, fun p hp => ?_⟩
      · rw [show j + 1 - 1 - i = j - 1 - (i - 1) by omega]
        exact h1.st
      · by_cases hpi : p = i
        · subst hpi
          rw [show j + 1 - 1 - p + p = j by omega]
          exact h3
        · have := h1.fit p (by omega)
          rwa [show j - 1 - (i - 1) = j + 1 - 1 - i by omega] at this
    · intro hp
      have h4 := hp.fr
      refine ⟨⟨by have := hp.lt; omega, by omega, ?_, fun p hpi => ?_⟩, hp.lt, ?_⟩
      · rw [show j - 1 - (i - 1) = j + 1 - 1 - i by omega]
        exact hp.st
      · have := hp.fit p (by omega)
        rwa [show j + 1 - 1 - i = j - 1 - (i - 1) by omega] at this
      · have := hp.fit i (Nat.le_refl _)
        rwa [show j + 1 - 1 - i + i = j by omega] at this

/-- The last bit says that a part ends behind j; the next head where the answer is not given. -/
theorem head_next {m : Nat} {C : Nat → Int} {n : Nat} {V : Nat → Int} {W : Nat → Bool} {fr : Nat} {st en : Bool} {wd : Nat} {S S' : Nat → Nat} {j : Nat} (h : Head m C n V W fr st en wd S j) (hm : 0 < m) (hmw : m ≤ 64 * wd)
    (hb : ∀ i, i < 64 * wd → (bitAt S' i = true ↔ Part m C V W fr st (j + 1) i)) (hno : ¬ (bitAt S' (m - 1) = true ∧ (en = true → Fin n W (j + 1)))) : Head m C n V W fr st en wd S' (j + 1) := by
  refine ⟨hb, fun s hg => ?_⟩
  have h1 := h.none s hg
  by_cases h2 : j + 1 < s + m
  · exact h2
  · exfalso
    apply hno
    have h3 : s + m = j + 1 := by omega
    refine ⟨(hb (m - 1) (by omega)).2 ⟨by omega, by have := hg.fr; omega, ?_, fun p hp => ?_⟩, ?_⟩
    · rw [show j + 1 - 1 - (m - 1) = s by omega]
      exact hg.st
    · rw [show j + 1 - 1 - (m - 1) = s by omega]
      exact hg.fit p (by omega)
    · rw [← h3]
      exact hg.en

theorem head_found {m : Nat} {C : Nat → Int} {n : Nat} {V : Nat → Int} {W : Nat → Bool} {fr : Nat} {st en : Bool} {wd : Nat} {S S' : Nat → Nat} {j : Nat} (h : Head m C n V W fr st en wd S j) (hm : 0 < m) (hmw : m ≤ 64 * wd) (hjn : j < n)
    (hb : ∀ i, i < 64 * wd → (bitAt S' i = true ↔ Part m C V W fr st (j + 1) i)) (hyes : bitAt S' (m - 1) = true ∧ (en = true → Fin n W (j + 1))) : Found m C n V W fr st en ((j : Int) + 1) true := by
  have hp := (hb (m - 1) (by omega)).1 hyes.1
  have h1 := hp.fr
  have hst := hp.st
  have hfit := hp.fit
  rw [show j + 1 - 1 - (m - 1) = j + 1 - m by omega] at hst hfit
  refine Or.inl ⟨rfl, j + 1 - m, ⟨by omega, by omega, hst, ?_, fun p hpm => hfit p (by omega)⟩, by omega, fun s' hg => ?_⟩
  · rw [show j + 1 - m + m = j + 1 by omega]
    exact hyes.2
  · have := h.none s' hg
    omega

theorem head_end {m : Nat} {C : Nat → Int} {n : Nat} {V : Nat → Int} {W : Nat → Bool} {fr : Nat} {st en : Bool} {wd : Nat} {S : Nat → Nat} {j : Nat} (h : Head m C n V W fr st en wd S j) (hj : n ≤ j) : Found m C n V W fr st en 0 false := by
  refine Or.inr ⟨rfl, rfl, fun s hg => ?_⟩
  have h1 := h.none s hg
  have h2 := hg.le
  omega

/-- The answers of two searches of which the second asks for less. -/
theorem found_less {m : Nat} {C : Nat → Int} {n : Nat} {V : Nat → Int} {W : Nat → Bool} {fr : Nat} {st en st' en' : Bool} {e e' : Int} {ok' : Bool} (h : Found m C n V W fr st en e true) (h' : Found m C n V W fr st' en' e' ok')
    (hst : st' = true → st = true) (hen : en' = true → en = true) : ok' = true ∧ e' ≤ e := by
  rcases h with ⟨_, s, hg, rfl, _⟩ | ⟨h, _⟩
  · have hg' : Good m C n V W fr st' en' s := ⟨hg.fr, hg.le, fun h => hg.st (hst h), fun h => hg.en (hen h), hg.fit⟩
    rcases h' with ⟨rfl, s', _, rfl, hmin⟩ | ⟨_, _, hno⟩
    · exact ⟨rfl, by have := hmin s hg'; omega⟩
    · exact (hno s hg').elim
  · cases h
end Go.Proofs.Qxb6601041a
