/-
  THE PLAIN SIDE of seat b6602927a: counting, and the floats' few facts. No Go in sight but the float's own words.
-/
import Derived.Laws.FloatArith
namespace Go.Proofs.Qxb6602927a

def hasB (n : Nat) (z : Nat → Int) (x : Int) : Bool := (List.range n).any fun i => z i == x
theorem hasB_iff {n : Nat} {z : Nat → Int} {x : Int} : hasB n z x = true ↔ ∃ i, i < n ∧ z i = x := by
  unfold hasB
  rw [List.any_eq_true]
  constructor
  · rintro ⟨i, hi, h⟩
    exact ⟨i, List.mem_range.1 hi, by simpa using h⟩
  · rintro ⟨i, hi, h⟩
    exact ⟨i, List.mem_range.2 hi, by simpa using h⟩
theorem hasB_true {n : Nat} {z : Nat → Int} {x : Int} (h : ∃ i, i < n ∧ z i = x) : hasB n z x = true := hasB_iff.2 h
theorem hasB_false {n : Nat} {z : Nat → Int} {x : Int} (h : ¬ ∃ i, i < n ∧ z i = x) : hasB n z x = false := by
  cases e : hasB n z x with
  | false => rfl
  | true => exact absurd (hasB_iff.1 e) h

def sumTo (f : Nat → Nat) : Nat → Nat
  | 0 => 0
  | i + 1 => sumTo f i + f i
def cnt (p : Nat → Bool) (n : Nat) : Nat := sumTo (fun i => (p i).toNat) n

theorem sumTo_congr {f g : Nat → Nat} {n : Nat} (h : ∀ i, i < n → f i = g i) : sumTo f n = sumTo g n := by
  induction n with
  | zero => rfl
  | succ n ih => rw [sumTo, sumTo, ih fun i hi => h i (by omega), h n (by omega)]
theorem sumTo_add (f g : Nat → Nat) (n : Nat) : sumTo (fun i => f i + g i) n = sumTo f n + sumTo g n := by
  induction n with
  | zero => rfl
  | succ n ih => simp only [sumTo, ih]; omega
theorem sumTo_zero (n : Nat) : sumTo (fun _ => 0) n = 0 := by
  induction n with
  | zero => rfl
  | succ n ih => simp [sumTo, ih]
theorem sumTo_swap (f : Nat → Nat → Nat) (a b : Nat) : sumTo (fun i => sumTo (f i) b) a = sumTo (fun j => sumTo (fun i => f i j) a) b := by
  induction a with
  | zero => simp [sumTo, sumTo_zero]
  | succ a ih => simp only [sumTo, ih, sumTo_add]
theorem sumTo_le {f : Nat → Nat} {n m : Nat} (h : ∀ i, i < n → f i ≤ m) : sumTo f n ≤ n * m := by
  induction n with
  | zero => simp [sumTo]
  | succ n ih =>
    have h1 := ih fun i hi => h i (by omega)
    have h2 := h n (by omega)
    rw [sumTo, Nat.succ_mul]
    omega
theorem cnt_le (p : Nat → Bool) (n : Nat) : cnt p n ≤ n := by
  have := sumTo_le (f := fun i => (p i).toNat) (n := n) (m := 1) (fun i _ => by cases p i <;> simp)
  rw [Nat.mul_one] at this
  exact this
theorem cnt_succ (p : Nat → Bool) (n : Nat) : cnt p (n + 1) = cnt p n + (p n).toNat := rfl

/-- Of entries that are all different at most one is c. -/
theorem cnt_one {b : Nat} {y : Nat → Int} (hy : ∀ i j, i < j → j < b → y i ≠ y j) (c : Int) : cnt (fun k => y k == c) b = (hasB b y c).toNat := by
  induction b with
  | zero => simp [cnt, sumTo, hasB]
  | succ b ih =>
    rw [cnt_succ, ih fun i j h1 h2 => hy i j h1 (by omega)]
    by_cases h : ∃ i, i < b ∧ y i = c
    · have h1 : hasB (b + 1) y c = true := hasB_true (by obtain ⟨i, hi, e⟩ := h; exact ⟨i, by omega, e⟩)
      have h2 : (y b == c) = false := by
        obtain ⟨i, hi, e⟩ := h
        rw [beq_eq_false_iff_ne, ← e]
        exact fun e2 => hy i b hi (by omega) e2.symm
      rw [hasB_true h, h1, h2]
      rfl
    · rw [hasB_false h]
      by_cases e : y b = c
      · rw [hasB_true (n := b + 1) ⟨b, by omega, e⟩, beq_iff_eq.2 e]
        rfl
      · rw [hasB_false (n := b + 1), beq_eq_false_iff_ne.2 e]
        · rfl
        · rintro ⟨i, hi, e2⟩
          by_cases e3 : i = b
          · subst e3; exact e e2
          · exact h ⟨i, by omega, e2⟩

/-- TWO LISTS WITHOUT REPEATS: as many of the one lie in the other as of the other in the one. -/
theorem cnt_both {a b : Nat} {x y : Nat → Int} (hx : ∀ i j, i < j → j < a → x i ≠ x j) (hy : ∀ i j, i < j → j < b → y i ≠ y j) :
    cnt (fun j => hasB b y (x j)) a = cnt (fun k => hasB a x (y k)) b := by
  have e1 : cnt (fun j => hasB b y (x j)) a = sumTo (fun j => sumTo (fun k => (y k == x j).toNat) b) a :=
    sumTo_congr fun j _ => (cnt_one hy (x j)).symm
  have e2 : cnt (fun k => hasB a x (y k)) b = sumTo (fun k => sumTo (fun j => (x j == y k).toNat) a) b :=
    sumTo_congr fun k _ => (cnt_one hx (y k)).symm
  rw [e1, e2, sumTo_swap]
  refine sumTo_congr fun k _ => sumTo_congr fun j _ => ?_
  congr 1
  rw [Bool.eq_iff_iff, beq_iff_eq, beq_iff_eq]
  exact eq_comm

/-! ### The two counts -/
def cOne (L : Nat → Nat) (Z : Nat → Nat → Int) (v u : Nat) (j : Nat) : Nat := cnt (fun j => hasB (L v) (Z v) (Z u j)) j
def cRow (L : Nat → Nat) (Z : Nat → Nat → Int) (v i : Nat) : Nat := sumTo (fun i => cOne L Z v (Z v i).toNat (L (Z v i).toNat)) i
def mOne (L : Nat → Nat) (Z : Nat → Nat → Int) (v i : Nat) (j : Nat) : Nat := cnt (fun j => !(i == j) && hasB (L (Z v i).toNat) (Z (Z v i).toNat) (Z v j)) j
def mRow (L : Nat → Nat) (Z : Nat → Nat → Int) (v i : Nat) : Nat := sumTo (fun i => mOne L Z v i (L v)) i

theorem rows_eq {n : Nat} {L : Nat → Nat} {Z : Nat → Nat → Int} (range : ∀ v, v < n → ∀ i, i < L v → 0 ≤ Z v i ∧ Z v i < n) (self : ∀ v, v < n → ∀ i, i < L v → Z v i ≠ v)
    (once : ∀ v, v < n → ∀ i j, i < j → j < L v → Z v i ≠ Z v j) (v : Nat) (hv : v < n) : cRow L Z v (L v) = mRow L Z v (L v) := by
  refine sumTo_congr fun i hi => ?_
  obtain ⟨h0, h1⟩ := range v hv i hi
  obtain ⟨u, hu⟩ := Int.eq_ofNat_of_zero_le h0
  have hun : u < n := by omega
  have hu2 : (Z v i).toNat = u := by omega
  unfold cOne mOne
  rw [hu2, cnt_both (once u hun) (once v hv)]
  refine sumTo_congr fun j hj => ?_
  by_cases e : i = j
  · subst e
    have : hasB (L u) (Z u) (Z v i) = false := by
      rw [hu]
      exact hasB_false fun ⟨m, hm, e⟩ => self u hun m hm e
    simp only [this, Bool.and_false]
  · have e2 : (i == j) = false := beq_eq_false_iff_ne.2 e
    simp only [e2, Bool.not_false, Bool.true_and]

/-! ### Floats that are nought or more -/
def NN (x : Nat) : Prop := x ≤ Ieee.double.infRung
def fadd (x y : Nat) : Nat := (Ieee.double.add x y).getD 0
def fdiv (x y : Nat) : Nat := (Ieee.double.div x y).getD 0

theorem infRung_val : Ieee.double.infRung = 9218868437227405312 := by simp [Ieee.Format.infRung, Ieee.double, Ieee.Format.binade]
theorem signW_val : Ieee.double.signWeight = 9223372036854775808 := by simp [Ieee.Format.signWeight, Ieee.double]

theorem word_false (f : Ieee.Format) (r : Nat) : f.word false r = r := by simp [Ieee.Format.word]
theorem nearest_le (f : Ieee.Format) (m : Nat) (p : Int) : f.nearest false m p ≤ f.infRung := by
  unfold Ieee.Format.nearest
  by_cases h : m = 0
  · rw [if_pos h, word_false]; exact Nat.zero_le _
  · rw [if_neg h]
    simp only [word_false]
    exact Nat.min_le_right _ _
theorem nearest_nn (m : Nat) (p : Int) : NN (Ieee.double.nearest false m p) := nearest_le _ m p

/-- What such a word stands for. -/
theorem read_nn {x : Nat} (h : NN x) : Ieee.double.read x = .infinity false ∨ ∃ m p, Ieee.double.read x = .number false m p := by
  unfold NN at h
  have hs : x / Ieee.double.signWeight = 0 := by rw [signW_val]; rw [infRung_val] at h; omega
  have hm : x % Ieee.double.signWeight = x := by rw [signW_val]; rw [infRung_val] at h; omega
  unfold Ieee.Format.read
  simp only [hs, hm]
  split
  · exact Or.inr ⟨_, _, rfl⟩
  · split
    · exact Or.inr ⟨_, _, rfl⟩
    · rw [if_pos (by omega)]
      exact Or.inl rfl

theorem write_nn_number (m : Nat) (p : Int) : NN (Ieee.double.write (.number false m p)) := nearest_nn m p
theorem write_inf_le (f : Ieee.Format) : f.write (.infinity false) ≤ f.infRung := by
  unfold Ieee.Format.write
  simp only [word_false]
  exact Nat.le_refl _
theorem write_nn_inf : NN (Ieee.double.write (.infinity false)) := write_inf_le _

theorem add_nn {x y : Nat} (hx : NN x) (hy : NN y) : Ieee.double.add x y = some (fadd x y) ∧ NN (fadd x y) := by
  have key : ∃ r, Ieee.double.add x y = some r ∧ NN r := by
    unfold Ieee.Format.add
    rcases read_nn hx with e | ⟨m, p, e⟩ <;> rcases read_nn hy with e2 | ⟨m2, p2, e2⟩ <;> rw [e, e2]
    · exact ⟨_, rfl, write_nn_inf⟩
    · exact ⟨_, rfl, write_nn_inf⟩
    · exact ⟨_, rfl, write_nn_inf⟩
    · refine ⟨_, rfl, ?_⟩
      have hs : ∀ m k, 0 ≤ Ieee.signed false m k := fun m k => by show (0 : Int) ≤ ((m <<< k : Nat) : Int); exact Int.natCast_nonneg _
      have h1 := hs m (p - min p p2).toNat
      have h2 := hs m2 (p2 - min p p2).toNat
      have e3 : (if Ieee.signed false m (p - min p p2).toNat + Ieee.signed false m2 (p2 - min p p2).toNat = 0 then false && false
          else decide (Ieee.signed false m (p - min p p2).toNat + Ieee.signed false m2 (p2 - min p p2).toNat < 0)) = false := by
        split
        · rfl
        · simp; omega
      show NN (Ieee.double.write (.number _ _ _))
      rw [e3]
      exact nearest_nn _ _
  obtain ⟨r, h, hr⟩ := key
  have : fadd x y = r := by unfold fadd; rw [h]; rfl
  rw [this]
  exact ⟨h, hr⟩

/-- A divisor that is finite and not nought. -/
def FN (y : Nat) : Prop := ∃ m p, Ieee.double.read y = .number false m p ∧ m ≠ 0

theorem div_nn {x y : Nat} (hx : NN x) (hy : FN y) : Ieee.double.div x y = some (fdiv x y) ∧ NN (fdiv x y) := by
  have key : ∃ r, Ieee.double.div x y = some r ∧ NN r := by
    obtain ⟨m2, p2, e2, h2⟩ := hy
    unfold Ieee.Format.div
    rcases read_nn hx with e | ⟨m, p, e⟩ <;> rw [e, e2]
    · exact ⟨_, rfl, write_nn_inf⟩
    · simp only [Ieee.Datum.quotient]
      rw [if_neg h2]
      exact ⟨_, rfl, nearest_nn _ _⟩
  obtain ⟨r, h, hr⟩ := key
  have : fdiv x y = r := by unfold fdiv; rw [h]; rfl
  rw [this]
  exact ⟨h, hr⟩

theorem order_nn {x : Nat} (hx : NN x) : Ieee.double.order x x = some .eq := by
  unfold Ieee.Format.order
  rcases read_nn hx with e | ⟨m, p, e⟩ <;> rw [e]
  · rfl
  · simp [Ieee.Datum.order]

theorem ofInt_nn (n : Nat) : NN (floatOfInt .f64 (n : Int)) := by
  have : decide ((n : Int) < 0) = false := by simp
  show NN (Ieee.double.write (.number _ _ _))
  rw [this]
  exact nearest_nn _ _

/-- A word strictly between nought and infinity stands for a number that is not nought. -/
theorem fn_of {y : Nat} (h0 : 0 < y) (h1 : y < Ieee.double.infRung) : FN y := by
  have hs : y / Ieee.double.signWeight = 0 := by rw [signW_val]; rw [infRung_val] at h1; omega
  have hm : y % Ieee.double.signWeight = y := by rw [signW_val]; rw [infRung_val] at h1; omega
  unfold FN Ieee.Format.read
  simp only [hs, hm]
  by_cases hb : y < Ieee.double.binade
  · rw [if_pos hb]
    exact ⟨_, _, rfl, by omega⟩
  · rw [if_neg hb, if_pos h1]
    refine ⟨_, _, rfl, ?_⟩
    have : 0 < Ieee.double.binade := Nat.two_pow_pos _
    omega

/-- The checks, one for each k at most 256, by reckoning. -/
def fnCheck (n : Nat) : Bool := decide (0 < floatOfInt .f64 (n : Int)) && decide (floatOfInt .f64 (n : Int) < 9218868437227405312)
theorem fn_small : ((List.range 257).all fun k => k == 0 || fnCheck k) = true := by decide +kernel
theorem fn_prod : ((List.range 257).all fun k => k == 0 || k == 1 || fnCheck (k * (k - 1))) = true := by decide +kernel
theorem fn_check {n : Nat} (h : fnCheck n = true) : FN (floatOfInt .f64 (n : Int)) := by
  unfold fnCheck at h
  simp only [Bool.and_eq_true, decide_eq_true_eq] at h
  exact fn_of h.1 (by rw [infRung_val]; exact h.2)
theorem fn_len {n : Nat} (h0 : n ≠ 0) (h : n ≤ 256) : FN (floatOfInt .f64 (n : Int)) := by
  have := List.all_eq_true.1 fn_small n (List.mem_range.2 (by omega))
  simp only [Bool.or_eq_true, beq_iff_eq] at this
  exact fn_check (this.resolve_left h0)
theorem fn_pairs {k : Nat} (h2 : 2 ≤ k) (h : k ≤ 256) : FN (floatOfInt .f64 ((k * (k - 1) : Nat) : Int)) := by
  have := List.all_eq_true.1 fn_prod k (List.mem_range.2 (by omega))
  simp only [Bool.or_eq_true, beq_iff_eq] at this
  exact fn_check (this.resolve_left (by omega))

/-! ### What both functions reckon, of their own counts 'lk' -/
def term (l k : Nat) : Nat := fdiv (floatOfInt .f64 (l : Int)) (floatOfInt .f64 ((k * (k - 1) : Nat) : Int))
def fs (lk L : Nat → Nat) : Nat → Nat
  | 0 => 0
  | v + 1 => if L v < 2 then fs lk L v else fadd (fs lk L v) (term (lk v) (L v))
def res (lk L : Nat → Nat) (n : Nat) : Nat := if n = 0 then 0 else fdiv (fs lk L n) (floatOfInt .f64 (n : Int))

theorem term_nn (l : Nat) {k : Nat} (h2 : 2 ≤ k) (h : k ≤ 256) : NN (term l k) := (div_nn (ofInt_nn l) (fn_pairs h2 h)).2
theorem fs_nn (lk L : Nat → Nat) (n : Nat) (h : ∀ v, v < n → L v ≤ 256) : NN (fs lk L n) := by
  induction n with
  | zero => exact Nat.zero_le _
  | succ n ih =>
    unfold fs
    split
    · exact ih fun v hv => h v (by omega)
    · exact (add_nn (ih fun v hv => h v (by omega)) (term_nn _ (by omega) (h n (by omega)))).2
theorem res_nn (lk L : Nat → Nat) (n : Nat) (hn : n ≤ 256) (h : ∀ v, v < n → L v ≤ 256) : NN (res lk L n) := by
  unfold res
  split
  · exact Nat.zero_le _
  · exact (div_nn (fs_nn lk L n h) (fn_len ‹_› hn)).2
theorem fs_congr {lk mk L : Nat → Nat} {n : Nat} (h : ∀ v, v < n → lk v = mk v) : fs lk L n = fs mk L n := by
  induction n with
  | zero => rfl
  | succ n ih => unfold fs; rw [ih fun v hv => h v (by omega), h n (by omega)]
theorem res_congr {lk mk L : Nat → Nat} {n : Nat} (h : ∀ v, v < n → lk v = mk v) : res lk L n = res mk L n := by
  unfold res; rw [fs_congr h]
end Go.Proofs.Qxb6602927a
