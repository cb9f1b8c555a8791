/-
  THE WALK of zzUtoa (20): for k > 0 it returns a text of digits, not empty, whose first is not '0'; for k = 0 the text "0". The world has at most a new block.
-/
import Derived.Test.Qxb6601093aTurn
import Derived.Laws.BytesArg
namespace Go.Proofs.Qxb6601093a
open Go.RowKit

def arr (L : List Int) : Array Value := (L.map (Value.int .u8)).toArray
theorem arr_get (L : List Int) (j : Nat) (h : j < L.length) : (arr L)[j]? = some (.int .u8 (L.getD j 0)) := by
  simp [arr, List.getElem?_eq_getElem h]
theorem arr_set (L : List Int) (j : Nat) (x : Int) : (arr L).setIfInBounds j (.int .u8 x) = arr (L.set j x) := by
  simp [arr, List.map_set]
def zeros20 : List Int := List.replicate 20 0

/-- What holds of the digits that stand from i on, when k is still to be written. -/
structure Dgs (i : Nat) (k : Int) (L : List Int) : Prop where
  len : L.length = 20
  le : i ≤ 20
  pos : 0 ≤ k
  u64 : k < 18446744073709551616
  room : k < 10 ^ i
  dg : ∀ j, i ≤ j → j < 20 → 48 ≤ L.getD j 0 ∧ L.getD j 0 ≤ 57
  head : k = 0 → i < 20 ∧ L.getD i 0 ≠ 48

theorem dgs_start (k : Int) (h0 : 0 < k) (h1 : k < 18446744073709551616) : Dgs 20 k zeros20 := by
  refine ⟨rfl, Nat.le_refl _, by omega, h1, ?_, fun j a b => by omega, fun h => by omega⟩
  have : (10 : Int) ^ 20 = 100000000000000000000 := by decide
  omega

theorem dgs_some {m : Nat} {x : Int} {L : List Int} (D : Dgs m x L) (hx : 0 < x) : ∃ i, m = i + 1 := by
  cases m with
  | zero => have := D.room; simp at this; omega
  | succ i => exact ⟨i, rfl⟩

theorem dgs_next {i : Nat} {x : Int} {L : List Int} (D : Dgs (i + 1) x L) (hx : 0 < x) : Dgs i (x / 10) (L.set i (48 + x % 10)) := by
  have hl := D.len
  have hle := D.le
  refine ⟨by simp [hl], by omega, by omega, ?_, ?_, ?_, ?_⟩
  · have := D.u64; omega
  · have := D.room
    rw [Int.pow_succ] at this
    omega
  · intro j hj hj2
    by_cases e : j = i
    · subst e
      rw [List.getD_eq_getElem?_getD, List.getElem?_set_self (by omega)]
      simp; omega
    · have := D.dg j (by omega) hj2
      rw [List.getD_eq_getElem?_getD, List.getElem?_set_ne (by omega), ← List.getD_eq_getElem?_getD]
      exact this
  · intro h
    refine ⟨by omega, ?_⟩
    rw [List.getD_eq_getElem?_getD, List.getElem?_set_self (by omega)]
    simp; omega

theorem sizeOf5 (w : World) : (sizeOf 5).run Try.prog w = .ok 1 w := by kernel_rfl
theorem slice20 (b : Nat) (w : World) (m : Nat) (hm : m < 20) : (Instr.sliceAt 39 (.pointer (some ⟨b, 0, none⟩)) (some (.int .i64 m)) none none).run Try.prog w = .ok (.slice (some ⟨b, m, none⟩) (20 - m) (20 - m)) w := by
  have hal : Try.prog.arrayLen 39 = 20 := by simp [Program.arrayLen, Try.underlying39]
  have hel : Try.prog.elem 39 = 5 := by simp [Program.elem, Try.underlying39]
  rw [run_sliceAt_array_l w 39 ⟨b, 0, none⟩ (by rw [hal, hel]; exact Try.underlying39) .i64 m (by omega) (by rw [hal]; omega)]
  rw [hel, sizeOf5, hal]
  simp only [Result.andThen, slicedAt, Int.toNat_natCast]
  rw [if_neg (by omega)]
  simp [Addr.add]
  omega

/-- A number's text: digits, not empty, no leading zero. -/
def Num (t : ByteArray) : Prop := 0 < t.size ∧ t.size ≤ 20 ∧ t.data.toList.all dig = true ∧ t.data.toList.head? ≠ some 48

theorem num_of {m : Nat} {x : Int} {L : List Int} (D : Dgs m x L) (hx : x = 0) : Num (strOfNums (L.drop m)) := by
  obtain ⟨hm, hh⟩ := D.head hx
  have hl := D.len
  refine ⟨by rw [strOfNums_size]; simp; omega, by rw [strOfNums_size]; simp; omega, ?_, ?_⟩
  · rw [strOfNums_data, List.all_eq_true]
    intro c hc
    obtain ⟨n, hn, rfl⟩ := List.mem_map.1 hc
    obtain ⟨j, hj, rfl⟩ := List.mem_iff_getElem.1 hn
    simp at hj
    have := D.dg (m + j) (by omega) (by omega)
    rw [List.getElem_drop]
    rw [List.getD_eq_getElem?_getD, List.getElem?_eq_getElem (by omega)] at this
    simp at this
    unfold dig
    simp
    omega
  · rw [strOfNums_data, List.head?_map, List.head?_drop, List.getElem?_eq_getElem (by omega)]
    have := D.dg m (by omega) hm
    rw [List.getD_eq_getElem?_getD, List.getElem?_eq_getElem (by omega)] at this hh
    simp at this hh
    simp
    intro h
    have h2 := congrArg UInt8.toNat h
    simp at h2
    omega

set_option maxHeartbeats 400000 in
theorem utoa_any (k0 : Int) (w : World) (h0 : 0 < k0) (h1 : k0 < 18446744073709551616) :
    Calls Try.prog 20 #[.int .u64 k0] w fun e w' => ∃ t : ByteArray, e = .returned (.string t) ∧ Num t ∧ Grown w w' := by
  have hz : (k0 == 0) = false := beq_eq_false_iff_ne.2 (by omega)
  go_enter Try.func20, Try.ntmps20
  go_wp2
  go_loopw [0, 4] (fun k i wr => ∃ (m : Nat) (x : Int) (L : List Int), i = .int .i64 m ∧ k = .int .u64 x ∧ wr = w.alloc (.cells (arr L) 39) ∧ Dgs m x L) (fun _ i _ => (intOf i).toNat)
  case atStart => exact ⟨20, k0, zeros20, rfl, rfl, rfl, dgs_start k0 h0 h1⟩
  case round =>
    obtain ⟨m, x, L, rfl, rfl, rfl, D⟩ := hrel
    by_cases hx : 0 < x
    · obtain ⟨i, rfl⟩ := dgs_some D hx
      have hi : i < 20 := by have := D.le; omega
      have hc := arr_get L i (by have := D.len; omega)
      have hx1 := D.u64
      go_wp2
      go_roundw
      case rel => exact ⟨i, x / 10, L.set i (48 + x % 10), rfl, rfl, by rw [arr_set], dgs_next D hx⟩
      case measure => simp [intOf]
    · have hx0 : x = 0 := by have := D.pos; omega
      have hm := (D.head hx0).1
      have hsl := fun w1 => slice20 w.heap.size w1 m hm
      have hcv := run_convert_bytes_arg (P := Try.prog) (w.alloc (.cells (arr L) 39)) 40 5 Try.underlying40 Try.underlying5 w.heap.size m (20 - m) (20 - m) (L.drop m) (by simp [D.len]) (fun i hi => by
        rw [World.cell?_alloc_at _ _ _ _ rfl, arr_get _ _ (by have := D.len; omega)]
        simp [List.getD_eq_getElem?_getD, List.getElem?_drop]) 9 Try.underlying9
      go_wp2
      go_ret
      exact ⟨_, rfl, num_of D hx0, (Grown.refl _).alloc _ _⟩

theorem utoa_zero (w : World) : Calls Try.prog 20 #[.int .u64 0] w fun e w' => e = .returned (.string ⟨#[48]⟩) ∧ w' = w := by
  go_enter Try.func20, Try.ntmps20
  go_wp2
  go_ret
  exact ⟨rfl, rfl⟩
end Go.Proofs.Qxb6601093a
