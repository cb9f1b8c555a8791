/-
  Seat b6601041a: the leaves: slices.BinarySearch at rune, beginsWord, endsWord.
-/
import Derived.Test.Qxb6601041aClones
import Derived.Test.Qxb6601041aPlainM
import Derived.Test.Qxb6601041aSrtA
namespace Go.Proofs.Qxb6601041a
open Go.RowKit

/-- The answer of BinarySearch. -/
def BsP (n : Nat) (Z : Nat → Int) (c : Int) (w : World) (e : Ending) (w' : World) : Prop :=
  ∃ (k : Nat) (found : Bool), e = .returned (.tuple #[.int .i64 k, .bool found]) ∧ w' = w ∧ k ≤ n ∧ ((found = true ∧ k < n ∧ Z k = c) ∨ (found = false ∧ ∀ j, j < n → Z j ≠ c))
theorem BsP.mk {n : Nat} {Z : Nat → Int} {c : Int} {w : World} {k : Nat} {found : Bool} (hk : k ≤ n) (h : (found = true ∧ k < n ∧ Z k = c) ∨ (found = false ∧ ∀ j, j < n → Z j ≠ c)) : BsP n Z c w (.returned (.tuple #[.int .i64 k, .bool found])) w :=
  ⟨k, found, rfl, rfl, hk, h⟩

set_option maxHeartbeats 400000 in
theorem so_slices_isNaN (x : Int) (w : World) : Calls Try.prog 55 #[.int .i32 x] w fun e w' => e = .returned (.bool false) ∧ w' = w := by
  go_enter Try.func55, Try.ntmps55
  go_wp2
  go_ret
  exact ⟨rfl, rfl⟩

set_option maxRecDepth 100000 in
set_option maxHeartbeats 1000000 in
theorem bsearch_any (x : Sl) (Z : Nat → Int) (c : Int) (w : World) (h : Runes w x Z) (hbig : x.n ≤ 1048576) (hs : ∀ i j, i < j → j < x.n → Z i < Z j) :
    Calls Try.prog 51 #[.slice x.s x.n x.c, .int .i32 c] w (BsP x.n Z c w) := by
  have H := hid h
  have HS := hid hs
  clear h hs
  go_enter Try.func51, Try.ntmps51
  go_wp2
  go_loop [7, 8] (fun a b => ∃ i j : Nat, a = .int .i64 i ∧ b = .int .i64 j ∧ i ≤ j ∧ j ≤ x.n ∧ Hid (∀ t, t < i → Z t < c) ∧ Hid (∀ t, j ≤ t → t < x.n → c ≤ Z t)) (fun a b => (intOf b).toNat - (intOf a).toNat)
  case atStart => exact ⟨0, x.n, rfl, rfl, Nat.zero_le _, Nat.le_refl _, fun t ht => absurd ht (Nat.not_lt_zero _), fun t h1 h2 => by omega⟩
  obtain ⟨i, j, rfl, rfl, hij, hjn, H1, H2⟩ := hrel
  by_cases hlt : i < j
  · have hm : (i + j) / 2 < x.n := by omega
    have hix := idx22 H.out ((i + j) / 2) hm
    have hc := H.out.cell hm
    have em : (((i + j) / 2 : Nat) : Int) = ((i : Int) + j) / 2 := by omega
    simp only [em] at hix
    have hall : ∀ t, t < x.n → Hid (t ≤ (i + j) / 2 → Z t ≤ Z ((i + j) / 2)) := fun t ht h1 => by
      rcases Nat.lt_or_ge t ((i + j) / 2) with h2 | h2
      · exact Int.le_of_lt (HS.out _ _ h2 hm)
      · obtain rfl : t = (i + j) / 2 := by omega
        exact Int.le_refl _
    have hall2 : ∀ t, t < x.n → Hid ((i + j) / 2 ≤ t → Z ((i + j) / 2) ≤ Z t) := fun t ht h1 => by
      rcases Nat.lt_or_ge ((i + j) / 2) t with h2 | h2
      · exact Int.le_of_lt (HS.out _ _ h2 ht)
      · obtain rfl : t = (i + j) / 2 := by omega
        exact Int.le_refl _
    have A1 := hid hall
    have A2 := hid hall2
    have E := hid em
    clear hall hall2 em
    cases hz : Sort.ltInt (Z ((i + j) / 2)) c with
    | true =>
      have hz' := hid (show Z ((i + j) / 2) < c by simpa [Sort.ltInt] using hz)
      go_wp2_with (go_at_call 54; refine (so_cmp_Less_int _ _ _).mono ?_; rintro e w' ⟨rfl, rfl⟩)
      go_round
      case rel => exact ⟨(i + j) / 2 + 1, j, by rw [← E.out]; rfl, rfl, by omega, hjn, fun t ht => by have := (A1.out t (by omega)).out (by omega); have := hz'.out; omega, H2⟩
      case measure => simp [intOf]; omega
    | false =>
      have hz' := hid (show ¬ Z ((i + j) / 2) < c by simpa [Sort.ltInt] using hz)
      go_wp2_with (go_at_call 54; refine (so_cmp_Less_int _ _ _).mono ?_; rintro e w' ⟨rfl, rfl⟩)
      go_round
      case rel => exact ⟨i, (i + j) / 2, rfl, by rw [← E.out], by omega, by omega, H1, fun t h1 h2 => by have := (A2.out t h2).out h1; have := hz'.out; omega⟩
      case measure => simp [intOf]; omega
  · obtain rfl : i = j := by omega
    by_cases hn : i < x.n
    · have hix := idx22 H.out i hn
      have hc := H.out.cell hn
      by_cases hz : Z i = c
      · go_wp2
        refine bodyPost_ret (by simp [results, Try.results51, go_sem]; try rfl) rfl ?_
        exact BsP.mk hjn (Or.inl ⟨rfl, hn, hz⟩)
      · have hz' : (Z i == c) = false := by simpa using hz
        go_wp2_with (go_at_call 55; refine (so_slices_isNaN _ _).mono ?_; rintro e w' ⟨rfl, rfl⟩)
        refine bodyPost_ret (by simp [results, Try.results51, go_sem]; try rfl) rfl ?_
        refine BsP.mk hjn (Or.inr ⟨rfl, fun t ht h1 => ?_⟩)
        rcases Nat.lt_or_ge t i with h2 | h2
        · have := H1.out t h2
          omega
        · rcases Nat.lt_or_ge i t with h3 | h3
          · have := HS.out i t h3 ht
            have := H2.out i (Nat.le_refl _) hn
            omega
          · obtain rfl : t = i := by omega
            exact hz h1
    · go_wp2
      refine bodyPost_ret (by simp [results, Try.results51, go_sem]; try rfl) rfl ?_
      exact BsP.mk hjn (Or.inr ⟨rfl, fun t ht h1 => by have := H1.out t (by omega); omega⟩)

/-- beginsWord, endsWord. -/
def BoolP (b : Bool) (w : World) (e : Ending) (w' : World) : Prop := e = .returned (.bool b) ∧ w' = w
theorem BoolP.mk {b b' : Bool} {w : World} (h : b = b') : BoolP b w (.returned (.bool b')) w := ⟨by rw [h], rfl⟩

/-- The folded value v at block fb: its characters x, its word marks y. -/
structure Fold (w : World) (fb : Nat) (x y : Sl) (V : Nat → Int) (W : Nat → Bool) : Prop where
  f0 : w.cell? ⟨fb, 0, none⟩ = some (.slice x.s x.n x.c)
  f1 : w.cell? ⟨fb, 1, none⟩ = some (.slice y.s y.n y.c)
  hx : Runes w x V
  hy : Bools w y W
  len : y.n = x.n
  big : x.n ≤ 1048576

def begB (W : Nat → Bool) (i : Nat) : Bool := decide (i = 0) || !W (i - 1)
def finB (n : Nat) (W : Nat → Bool) (i : Nat) : Bool := decide (i = n) || !W i
theorem begB_iff {W : Nat → Bool} {i : Nat} : begB W i = true ↔ Beg W i := by simp [begB, Beg]
theorem finB_iff {n : Nat} {W : Nat → Bool} {i : Nat} : finB n W i = true ↔ Fin n W i := by simp [finB, Fin]

set_option maxRecDepth 100000 in
set_option maxHeartbeats 1000000 in
theorem begins_any {fb : Nat} {x y : Sl} {V : Nat → Int} {W : Nat → Bool} {w : World} (h : Fold w fb x y V W) (i : Nat) (hi : i ≤ x.n) :
    Calls Try.prog 44 #[.pointer (some ⟨fb, 0, none⟩), .int .i64 i] w (BoolP (begB W i) w) := by
  have f1 := h.f1
  have H := hid h
  have hb : i ≤ 1048576 := Nat.le_trans hi h.big
  have hl := hid h.len
  clear h
  by_cases h0 : i = 0
  · subst h0
    go_enter Try.func44, Try.ntmps44
    go_wp2
    go_ret
    exact BoolP.mk (by simp [begB])
  · have hlt : i - 1 < y.n := by have := hl.out; omega
    have hix := idx23 H.out.hy (i - 1) hlt
    have hc := H.out.hy.cell hlt
    have e1 : ((i - 1 : Nat) : Int) = (i : Int) - 1 := by omega
    simp only [e1] at hix
    clear hlt e1
    go_enter Try.func44, Try.ntmps44
    go_wp2
    go_ret
    exact BoolP.mk (by simp [begB, h0])

set_option maxRecDepth 100000 in
set_option maxHeartbeats 1000000 in
theorem ends_any {fb : Nat} {x y : Sl} {V : Nat → Int} {W : Nat → Bool} {w : World} (h : Fold w fb x y V W) (i : Nat) (hi : i ≤ x.n) :
    Calls Try.prog 45 #[.pointer (some ⟨fb, 0, none⟩), .int .i64 i] w (BoolP (finB x.n W i) w) := by
  have f0 := h.f0
  have f1 := h.f1
  have H := hid h
  have hb : x.n ≤ 1048576 := h.big
  have hl := hid h.len
  clear h
  by_cases h0 : i = x.n
  · subst h0
    go_enter Try.func45, Try.ntmps45
    go_wp2
    go_ret
    exact BoolP.mk (by simp [finB])
  · have hlt : i < y.n := by have := hl.out; omega
    have h0z : ¬ ((i : Int) = (x.n : Int)) := by omega
    have hix := idx23 H.out.hy i hlt
    have hc := H.out.hy.cell hlt
    clear hlt
    go_enter Try.func45, Try.ntmps45
    go_wp2
    go_ret
    exact BoolP.mk (by simp [finB, h0]; intro h1; omega)
end Go.Proofs.Qxb6601041a
