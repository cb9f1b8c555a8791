/-
  Seat b6601041a: the masks' tail: read and written.
-/
import Derived.Test.Qxb6601041aGlob
import Derived.Laws.Bits64b
namespace Go.Proofs.Qxb6601041a
open Go.RowKit

theorem map_u64v (Ms : List Nat) (K : Nat) (F : Nat → Nat) : (Ms ++ (List.range K).map F).map u64v = Ms.map u64v ++ (List.range K).map (fun t => Value.int .u64 (F t : Nat)) := by
  simp [u64v]

theorem masks_has {w0 w : World} {gb : Nat} {wv : Value} {Cs Ls : List Int} {Ms : List Nat} {ns : Nat} {Ss : List Value} {vc vl vm vs : Value} {K : Nat} {F : Nat → Nat} (h : GP w0 gb wv w Cs Ls (Ms ++ (List.range K).map F) ns Ss vc vl vm vs) {m : Sl} (ht : TailAt vm (Ms.length + K) Ms.length m) (hmn : m.n = K) (hb : Ms.length + K ≤ 1073741824) :
    m.Has w fun t => Value.int .u64 (F t : Nat) := by
  have hm := h.hm
  rw [map_u64v, List.length_append, List.length_map, List.length_range] at hm
  exact tail_has hm (by simp) ht (by omega) hb

theorem masks_store {w0 w : World} {gb : Nat} {wv : Value} {Cs Ls : List Int} {Ms : List Nat} {ns : Nat} {Ss : List Value} {vc vl vm vs : Value} {K : Nat} {F : Nat → Nat} (h : GP w0 gb wv w Cs Ls (Ms ++ (List.range K).map F) ns Ss vc vl vm vs) {m : Sl} (ht : TailAt vm (Ms.length + K) Ms.length m) (hmn : m.n = K) {i : Nat} (hi : i < K) (v : Nat) :
    w.frozen? ⟨m.b, m.off + i, none⟩ = false ∧ GP w0 gb wv (w.setCell ⟨m.b, m.off + i, none⟩ (.int .u64 (v : Nat))) Cs Ls (Ms ++ (List.range K).map (upd F i v)) ns Ss vc vl vm vs := by
  have hm := h.hm
  have hl : (Ms ++ (List.range K).map F).length = Ms.length + K := by simp
  have hl' : (Ms ++ (List.range K).map (upd F i v)).length = Ms.length + K := by simp
  rw [hl] at hm
  rcases ht with ⟨_, h0, _⟩ | ⟨g, cap, rfl, hsn, hb, hoff⟩
  · omega
  · have ho := hoff (by omega)
    rw [hb, ho]
    obtain ⟨k1, k2⟩ := hm.stored (Ms.length + i) (.int .u64 (v : Nat))
    refine ⟨hm.frozenAt _, h.masksIn ?_ k2⟩
    rw [hl']
    have e : (Ms ++ (List.range K).map (upd F i v)).map u64v = ((Ms ++ (List.range K).map F).map u64v).set (Ms.length + i) (.int .u64 (v : Nat)) := by
      apply List.ext_getElem?
      intro j
      rw [List.getElem?_set]
      by_cases hj : Ms.length + i = j
      · subst hj
        rw [if_pos rfl, if_pos (by simp; omega)]
        simp [upd, u64v, hi]
      · rw [if_neg hj]
        rcases Nat.lt_or_ge j Ms.length with h1 | h1
        · simp [List.getElem?_append_left, h1]
        · simp only [List.map_append, List.map_map]
          rw [List.getElem?_append_right (by simpa using h1), List.getElem?_append_right (by simpa using h1)]
          simp only [List.length_map, List.getElem?_map]
          by_cases h2 : j - Ms.length < K
          · simp [h2, upd, show ¬ j - Ms.length = i by omega]
          · simp [h2]
    rw [e]
    exact k1

theorem pow_lt64 (i : Nat) : 2 ^ (i % 64) < 18446744073709551616 := by
  have := Nat.pow_lt_pow_right (a := 2) (by decide) (show i % 64 < 64 from Nat.mod_lt _ (by decide))
  simpa using this
theorem wrap_pow (i : Nat) : IntKind.u64.wrap (2 ^ (i % 64)) = ((2 ^ (i % 64) : Nat) : Int) := by
  have h1 := pow_lt64 i
  have h2 : ((2 ^ (i % 64) : Nat) : Int) = (2 : Int) ^ (i % 64) := by simp
  rw [← h2, IntKind.wrap_u64]
  generalize (2 ^ (i % 64) : Nat) = T at h1
  omega
theorem or_lt64 {a b : Nat} (ha : a < 18446744073709551616) (hb : b < 18446744073709551616) : a ||| b < 18446744073709551616 := by
  have := Nat.or_lt_two_pow (n := 64) (x := a) (y := b) (by simpa using ha) (by simpa using hb)
  simpa using this
end Go.Proofs.Qxb6601041a
