/-
  Seat b6601041a: the byte guards; the copies zzCloneRunes, zzCloneBools.
-/
import Derived.Test.Qxb6601041aViews
namespace Go.Proofs.Qxb6601041a
open Go.RowKit

def SomeB (w : World) (e : Ending) (w' : World) : Prop := ∃ b : Bool, e = .returned (.bool b) ∧ w' = w
theorem SomeB.mk {w : World} (b : Bool) : SomeB w (.returned (.bool b)) w := ⟨b, rfl, rfl⟩

set_option maxRecDepth 100000 in
set_option maxHeartbeats 1000000 in
theorem bytes25_any (x0 x1 x2 : Sl) (a3 : Int) (b4 b5 : Bool) (w : World) (h0 : x0.n ≤ 9223372036854775807) (h1 : x1.n ≤ 9223372036854775807) (h2 : x2.n ≤ 9223372036854775807) :
    Calls Try.prog 25 #[.slice x0.s x0.n x0.c, .slice x1.s x1.n x1.c, .slice x2.s x2.n x2.c, .int .i64 a3, .bool b4, .bool b5] w (SomeB w) := by
  go_enter Try.func25, Try.ntmps25
  go_wp2
  all_goals (go_ret; exact SomeB.mk _)

set_option maxRecDepth 100000 in
set_option maxHeartbeats 1000000 in
theorem bytes19_any (x0 x1 x2 : Sl) (b3 : Bool) (a4 : Int) (w : World) (h0 : x0.n ≤ 9223372036854775807) (h1 : x1.n ≤ 9223372036854775807) (h2 : x2.n ≤ 9223372036854775807) :
    Calls Try.prog 19 #[.slice x0.s x0.n x0.c, .slice x1.s x1.n x1.c, .slice x2.s x2.n x2.c, .bool b3, .int .i64 a4] w (SomeB w) := by
  go_enter Try.func19, Try.ntmps19
  go_wp2
  all_goals (go_ret; exact SomeB.mk _)

/-- n cells of which the first k are V's, the rest z. -/
def part (V : Nat → Value) (z : Value) (n k : Nat) : Array Value := ((List.range n).map fun i => if i < k then V i else z).toArray
theorem part_get (V : Nat → Value) (z : Value) (n k i : Nat) (h : i < n) : (part V z n k)[i]? = some (if i < k then V i else z) := by
  simp [part, h]
theorem part_set (V : Nat → Value) (z : Value) (n k : Nat) (h : k < n) : (part V z n k).setIfInBounds k (V k) = part V z n (k + 1) := by
  unfold part
  rw [List.setIfInBounds_toArray]
  congr 1
  apply List.ext_getElem?
  intro j
  rw [List.getElem?_set]
  by_cases hj : j < n
  · by_cases e : k = j
    · subst e; simp [hj]
    · have e1 : (j < k + 1) = (j < k) := by apply propext; omega
      simp [hj, e, e1]
  · by_cases e : k = j
    · subst e; exact absurd h hj
    · simp [hj, e]
theorem part_made (V : Nat → Value) (z : Value) (n : Nat) : madeCells #[z] n = part V z n 0 := by
  unfold madeCells part
  apply Array.ext'
  simp [Array.toList_range]
  intro a _
  simp [Nat.mod_one]
theorem part_size (V : Nat → Value) (z : Value) (n k : Nat) : (part V z n k).size = n := by simp [part]

theorem info4 : (Try.prog.info? 4).map (fun i => (i.zero, i.size, i.bytes)) = some (some (.bool false), 1, 1) := by kernel_rfl
theorem info21 : (Try.prog.info? 21).map (fun i => (i.zero, i.size, i.bytes)) = some (some (.int .i32 0), 1, 4) := by kernel_rfl

theorem nil_len {x : Sl} {w : World} {V : Nat → Value} (h : x.Has w V) (hs : x.s = none) : x.n = 0 := by
  rcases Nat.eq_zero_or_pos x.n with h0 | h0
  · exact h0
  · have := (h.row 0 h0).1
    rw [hs] at this
    cases this

/-- The last block, whole. -/
theorem has_new (w : World) (V : Nat → Value) (z : Value) (n : Nat) (t : TypeId) (hn : n ≤ 9223372036854775807) :
    (⟨some ⟨w.heap.size, 0, none⟩, n, n, w.heap.size, 0⟩ : Sl).Has (w.alloc (.cells (part V z n n) t)) V :=
  ⟨fun i hi => ⟨rfl, by
    show (w.alloc (.cells (part V z n n) t)).cell? ⟨w.heap.size, 0 + i, none⟩ = some (V i)
    rw [World.cell?_alloc_at _ _ _ _ rfl, Nat.zero_add, part_get _ _ _ _ _ hi, if_pos hi]⟩, hn⟩
theorem has_nil (w : World) (V : Nat → Value) : (⟨none, 0, 0, 0, 0⟩ : Sl).Has w V := ⟨fun i hi => absurd hi (Nat.not_lt_zero i), Nat.zero_le _⟩

/-- A copy of the slice x: as many elements, the same, in memory of the call's own. -/
def CopyP (w : World) (n : Nat) (V : Nat → Value) (e : Ending) (w' : World) : Prop := ∃ y : Sl, e = .returned (.slice y.s y.n y.c) ∧ y.n = n ∧ y.c = n ∧ y.Has w' V ∧ Below w.heap.size w w' ∧ (0 < n → w.heap.size ≤ y.b)
theorem CopyP.new {w : World} {n : Nat} {V : Nat → Value} {z : Value} {t : TypeId} (hn : n ≤ 9223372036854775807) :
    CopyP w n V (.returned (.slice (some ⟨w.heap.size, 0, none⟩) n n)) (w.alloc (.cells (part V z n n) t)) :=
  ⟨⟨some ⟨w.heap.size, 0, none⟩, n, n, w.heap.size, 0⟩, rfl, rfl, rfl, has_new w V z n t hn, (Below.refl _ _).alloc (Nat.le_refl _) _, fun _ => Nat.le_refl _⟩
theorem CopyP.nil {w : World} {n : Nat} {V : Nat → Value} (h : n = 0) : CopyP w n V (.returned (.slice none 0 0)) w :=
  ⟨⟨none, 0, 0, 0, 0⟩, rfl, h.symm, h.symm, has_nil w V, Below.refl _ _, fun h' => absurd h' (by omega)⟩

set_option maxHeartbeats 400000 in
theorem cloneRunes_any (x : Sl) (U : Nat → Int) (w : World) (h : x.Has w fun i => Value.int .i32 (U i)) (hn : x.n ≤ 1048576) :
    Calls Try.prog 12 #[.slice x.s x.n x.c] w (CopyP w x.n fun i => Value.int .i32 (U i)) := by
  have heq := fun w => Lib.run_eql_slice_nil (P := Try.prog) w 22 21 x.s x.n x.c 0 0 Try.underlying22
  cases hs : x.s.isNone with
  | true =>
    have h0 := hid (nil_len h (Option.isNone_iff_eq_none.1 hs))
    go_enter Try.func12, Try.ntmps12
    go_wp2
    go_ret
    exact CopyP.nil h0.out
  | false =>
    have hmk := run_make_row' (P := Try.prog) 22 21 (.int .i32 0) 4 Try.underlying22 info21 rfl .i64 .i64 x.n (by omega) (by omega)
    go_enter Try.func12, Try.ntmps12
    go_wp2
    clear hmk heq
    go_loopw [4] (fun i wr => ∃ k : Nat, k ≤ x.n ∧ i = .int .i64 k ∧ wr = w.alloc (.cells (part (fun i => Value.int .i32 (U i)) (.int .i32 0) x.n k) 21)) (fun i _ => x.n - (intOf i).toNat)
    case atStart => exact ⟨0, Nat.zero_le _, rfl, by rw [← part_made]⟩
    case round =>
      obtain ⟨k, hk, rfl, rfl⟩ := hrel
      by_cases hlt : k < x.n
      · have hix := idx22 h k hlt
        have hc := h.cell hlt
        have hb := h.blk hlt
        have hpg := part_get (fun i => Value.int .i32 (U i)) (.int .i32 0) x.n k k hlt
        have hps := hid (part_set (fun i => Value.int .i32 (U i)) (.int .i32 0) x.n k hlt)
        rw [if_neg (Nat.lt_irrefl k)] at hpg
        go_wp2
        go_roundw
        case rel => exact ⟨k + 1, by omega, by go_num, by rw [← hps.out]⟩
        case measure => simp [intOf]; omega
      · have hke : k = x.n := by omega
        subst hke
        go_wp2
        go_ret
        exact CopyP.new h.len

set_option maxHeartbeats 400000 in
theorem cloneBools_any (x : Sl) (U : Nat → Bool) (w : World) (h : x.Has w fun i => Value.bool (U i)) (hn : x.n ≤ 1048576) :
    Calls Try.prog 13 #[.slice x.s x.n x.c] w (CopyP w x.n fun i => Value.bool (U i)) := by
  have heq := fun w => Lib.run_eql_slice_nil (P := Try.prog) w 23 4 x.s x.n x.c 0 0 Try.underlying23
  cases hs : x.s.isNone with
  | true =>
    have h0 := hid (nil_len h (Option.isNone_iff_eq_none.1 hs))
    go_enter Try.func13, Try.ntmps13
    go_wp2
    go_ret
    exact CopyP.nil h0.out
  | false =>
    have hmk := run_make_row' (P := Try.prog) 23 4 (.bool false) 1 Try.underlying23 info4 rfl .i64 .i64 x.n (by omega) (by omega)
    go_enter Try.func13, Try.ntmps13
    go_wp2
    clear hmk heq
    go_loopw [4] (fun i wr => ∃ k : Nat, k ≤ x.n ∧ i = .int .i64 k ∧ wr = w.alloc (.cells (part (fun i => Value.bool (U i)) (.bool false) x.n k) 4)) (fun i _ => x.n - (intOf i).toNat)
    case atStart => exact ⟨0, Nat.zero_le _, rfl, by rw [← part_made]⟩
    case round =>
      obtain ⟨k, hk, rfl, rfl⟩ := hrel
      by_cases hlt : k < x.n
      · have hix := idx23 h k hlt
        have hc := h.cell hlt
        have hb := h.blk hlt
        have hpg := part_get (fun i => Value.bool (U i)) (.bool false) x.n k k hlt
        have hps := hid (part_set (fun i => Value.bool (U i)) (.bool false) x.n k hlt)
        rw [if_neg (Nat.lt_irrefl k)] at hpg
        go_wp2
        go_roundw
        case rel => exact ⟨k + 1, by omega, by go_num, by rw [← hps.out]⟩
        case measure => simp [intOf]; omega
      · have hke : k = x.n := by omega
        subst hke
        go_wp2
        go_ret
        exact CopyP.new h.len
end Go.Proofs.Qxb6601041a
