/-
  THE WALKS, C: the deep copies: zzCloneStrs, zzCloneBools, zzCloneInts, zzCloneIntss: the same elements in new memory.
-/
import Derived.Test.Qxb6601102aBytes
import Derived.WalkSpells
namespace Go.Proofs.Qxb6601102a
open Go.RowKit

/-- n cells of which the first k are V's, the rest z. -/
def part (V : Nat → Value) (z : Value) (n k : Nat) : Array Value := ((List.range n).map fun i => if i < k then V i else z).toArray
theorem part_get (V : Nat → Value) (z : Value) (n k i : Nat) (h : i < n) : (part V z n k)[i]? = some (if i < k then V i else z) := by
  simp [part, h]
theorem part_set (V : Nat → Value) (z : Value) (n k : Nat) (h : k < n) : (part V z n k).setIfInBounds k (V k) = part V z n (k + 1) := by
  unfold part
  rw [List.setIfInBounds_toArray]
  congr 1
  apply List.ext_getElem?
  intro j
  rw [List.getElem?_set]
  by_cases hj : j < n
  · by_cases e : k = j
    · subst e; simp [hj]
    · have e1 : (j < k + 1) = (j < k) := by apply propext; omega
      simp [hj, e, e1]
  · by_cases e : k = j
    · subst e; exact absurd h hj
    · simp [hj, e]
theorem part_made (V : Nat → Value) (z : Value) (n : Nat) : madeCells #[z] n = part V z n 0 := by
  unfold madeCells part
  apply Array.ext'
  simp [Array.toList_range]
  intro a _
  simp [Nat.mod_one]
theorem part_size (V : Nat → Value) (z : Value) (n k : Nat) : (part V z n k).size = n := by simp [part]

theorem info9 : (Try.prog.info? 9).map (fun i => (i.zero, i.size, i.bytes)) = some (some (.string ByteArray.empty), 1, 16) := by kernel_rfl
theorem info4 : (Try.prog.info? 4).map (fun i => (i.zero, i.size, i.bytes)) = some (some (.bool false), 1, 1) := by kernel_rfl
theorem info3 : (Try.prog.info? 3).map (fun i => (i.zero, i.size, i.bytes)) = some (some (.int .i64 0), 1, 8) := by kernel_rfl
theorem info24 : (Try.prog.info? 24).map (fun i => (i.zero, i.size, i.bytes)) = some (some (.slice none 0 0), 1, 24) := by kernel_rfl

theorem nil_len {x : Sl} {w : World} {V : Nat → Value} (h : x.Has w V) (hs : x.s = none) : x.n = 0 := by
  rcases Nat.eq_zero_or_pos x.n with h0 | h0
  · exact h0
  · have := (h.row 0 h0).1
    rw [hs] at this
    cases this

/-- The last block, whole. -/
theorem has_new (w : World) (V : Nat → Value) (z : Value) (n : Nat) (t : TypeId) (hn : n ≤ 9223372036854775807) :
    (⟨some ⟨w.heap.size, 0, none⟩, n, n, w.heap.size, 0⟩ : Sl).Has (w.alloc (.cells (part V z n n) t)) V :=
  ⟨fun i hi => ⟨rfl, by
    show (w.alloc (.cells (part V z n n) t)).cell? ⟨w.heap.size, 0 + i, none⟩ = some (V i)
    rw [World.cell?_alloc_at _ _ _ _ rfl, Nat.zero_add, part_get _ _ _ _ _ hi, if_pos hi]⟩, hn⟩
theorem has_nil (w : World) (V : Nat → Value) : (⟨none, 0, 0, 0, 0⟩ : Sl).Has w V := ⟨fun i hi => absurd hi (Nat.not_lt_zero i), Nat.zero_le _⟩

/-- A copy of the slice x: as many elements, the same, in memory of the call's own. -/
def CopyP (w : World) (n : Nat) (V : Nat → Value) (e : Ending) (w' : World) : Prop := ∃ y : Sl, e = .returned (.slice y.s y.n y.c) ∧ y.n = n ∧ y.c = n ∧ y.Has w' V ∧ Below w.heap.size w w' ∧ (0 < n → w.heap.size ≤ y.b)
theorem CopyP.new {w : World} {n : Nat} {V : Nat → Value} {z : Value} {t : TypeId} (hn : n ≤ 9223372036854775807) :
    CopyP w n V (.returned (.slice (some ⟨w.heap.size, 0, none⟩) n n)) (w.alloc (.cells (part V z n n) t)) :=
  ⟨⟨some ⟨w.heap.size, 0, none⟩, n, n, w.heap.size, 0⟩, rfl, rfl, rfl, has_new w V z n t hn, (Below.refl _ _).alloc (Nat.le_refl _) _, fun _ => Nat.le_refl _⟩
theorem CopyP.nil {w : World} {n : Nat} {V : Nat → Value} (h : n = 0) : CopyP w n V (.returned (.slice none 0 0)) w :=
  ⟨⟨none, 0, 0, 0, 0⟩, rfl, h.symm, h.symm, has_nil w V, Below.refl _ _, fun h' => absurd h' (by omega)⟩

set_option maxHeartbeats 400000 in
theorem cloneStrs_any (x : Sl) (U : Nat → ByteArray) (w : World) (h : x.Has w fun i => Value.string (U i)) (hn : x.n ≤ 1048576) :
    Calls Try.prog 14 #[.slice x.s x.n x.c] w (CopyP w x.n fun i => Value.string (U i)) := by
  have heq := fun w => Lib.run_eql_slice_nil (P := Try.prog) w 22 9 x.s x.n x.c 0 0 Try.underlying22
  cases hs : x.s.isNone with
  | true =>
    have h0 := hid (nil_len h (Option.isNone_iff_eq_none.1 hs))
    go_enter Try.func14, Try.ntmps14
    go_wp2
    go_ret
    exact CopyP.nil h0.out
  | false =>
    have hmk := run_make_row' (P := Try.prog) 22 9 (.string ByteArray.empty) 16 Try.underlying22 info9 rfl .i64 .i64 x.n (by omega) (by omega)
    go_enter Try.func14, Try.ntmps14
    go_wp2
    clear hmk heq
    go_loopw [4] (fun i wr => ∃ k : Nat, k ≤ x.n ∧ i = .int .i64 k ∧ wr = w.alloc (.cells (part (fun i => Value.string (U i)) (.string ByteArray.empty) x.n k) 9)) (fun i _ => x.n - (intOf i).toNat)
    case atStart => exact ⟨0, Nat.zero_le _, rfl, by rw [← part_made]⟩
    case round =>
      obtain ⟨k, hk, rfl, rfl⟩ := hrel
      by_cases hlt : k < x.n
      · have hix := idx22 h k hlt
        have hc := h.cell hlt
        have hb := h.blk hlt
        have hpg := part_get (fun i => Value.string (U i)) (.string ByteArray.empty) x.n k k hlt
        have hps := hid (part_set (fun i => Value.string (U i)) (.string ByteArray.empty) x.n k hlt)
        rw [if_neg (Nat.lt_irrefl k)] at hpg
        go_wp2
        go_roundw
        case rel => exact ⟨k + 1, by omega, by go_num, by rw [← hps.out]⟩
        case measure => simp [intOf]; omega
      · have hke : k = x.n := by omega
        subst hke
        go_wp2
        go_ret
        exact CopyP.new h.len

set_option maxHeartbeats 400000 in
theorem cloneBools_any (x : Sl) (U : Nat → Bool) (w : World) (h : x.Has w fun i => Value.bool (U i)) (hn : x.n ≤ 1048576) :
    Calls Try.prog 15 #[.slice x.s x.n x.c] w (CopyP w x.n fun i => Value.bool (U i)) := by
  have heq := fun w => Lib.run_eql_slice_nil (P := Try.prog) w 23 4 x.s x.n x.c 0 0 Try.underlying23
  cases hs : x.s.isNone with
  | true =>
    have h0 := hid (nil_len h (Option.isNone_iff_eq_none.1 hs))
    go_enter Try.func15, Try.ntmps15
    go_wp2
    go_ret
    exact CopyP.nil h0.out
  | false =>
    have hmk := run_make_row' (P := Try.prog) 23 4 (.bool false) 1 Try.underlying23 info4 rfl .i64 .i64 x.n (by omega) (by omega)
    go_enter Try.func15, Try.ntmps15
    go_wp2
    clear hmk heq
    go_loopw [4] (fun i wr => ∃ k : Nat, k ≤ x.n ∧ i = .int .i64 k ∧ wr = w.alloc (.cells (part (fun i => Value.bool (U i)) (.bool false) x.n k) 4)) (fun i _ => x.n - (intOf i).toNat)
    case atStart => exact ⟨0, Nat.zero_le _, rfl, by rw [← part_made]⟩
    case round =>
      obtain ⟨k, hk, rfl, rfl⟩ := hrel
      by_cases hlt : k < x.n
      · have hix := idx23 h k hlt
        have hc := h.cell hlt
        have hb := h.blk hlt
        have hpg := part_get (fun i => Value.bool (U i)) (.bool false) x.n k k hlt
        have hps := hid (part_set (fun i => Value.bool (U i)) (.bool false) x.n k hlt)
        rw [if_neg (Nat.lt_irrefl k)] at hpg
        go_wp2
        go_roundw
        case rel => exact ⟨k + 1, by omega, by go_num, by rw [← hps.out]⟩
        case measure => simp [intOf]; omega
      · have hke : k = x.n := by omega
        subst hke
        go_wp2
        go_ret
        exact CopyP.new h.len

set_option maxHeartbeats 400000 in
theorem cloneInts_any (x : Sl) (U : Nat → Int) (w : World) (h : x.Has w fun i => Value.int .i64 (U i)) (hn : x.n ≤ 1048576) :
    Calls Try.prog 16 #[.slice x.s x.n x.c] w (CopyP w x.n fun i => Value.int .i64 (U i)) := by
  have heq := fun w => Lib.run_eql_slice_nil (P := Try.prog) w 24 3 x.s x.n x.c 0 0 Try.underlying24
  cases hs : x.s.isNone with
  | true =>
    have h0 := hid (nil_len h (Option.isNone_iff_eq_none.1 hs))
    go_enter Try.func16, Try.ntmps16
    go_wp2
    go_ret
    exact CopyP.nil h0.out
  | false =>
    have hmk := run_make_row' (P := Try.prog) 24 3 (.int .i64 0) 8 Try.underlying24 info3 rfl .i64 .i64 x.n (by omega) (by omega)
    go_enter Try.func16, Try.ntmps16
    go_wp2
    clear hmk heq
    go_loopw [4] (fun i wr => ∃ k : Nat, k ≤ x.n ∧ i = .int .i64 k ∧ wr = w.alloc (.cells (part (fun i => Value.int .i64 (U i)) (.int .i64 0) x.n k) 3)) (fun i _ => x.n - (intOf i).toNat)
    case atStart => exact ⟨0, Nat.zero_le _, rfl, by rw [← part_made]⟩
    case round =>
      obtain ⟨k, hk, rfl, rfl⟩ := hrel
      by_cases hlt : k < x.n
      · have hix := idx24 h k hlt
        have hc := h.cell hlt
        have hb := h.blk hlt
        have hpg := part_get (fun i => Value.int .i64 (U i)) (.int .i64 0) x.n k k hlt
        have hps := hid (part_set (fun i => Value.int .i64 (U i)) (.int .i64 0) x.n k hlt)
        rw [if_neg (Nat.lt_irrefl k)] at hpg
        go_wp2
        go_roundw
        case rel => exact ⟨k + 1, by omega, by go_num, by rw [← hps.out]⟩
        case measure => simp [intOf]; omega
      · have hke : k = x.n := by omega
        subst hke
        go_wp2
        go_ret
        exact CopyP.new h.len

/-- A slice stays where its block stays. -/
theorem Sl.Has.of_block {x : Sl} {w w' : World} {V : Nat → Value} (h : x.Has w V) (hb : 0 < x.n → w'.heap[x.b]? = w.heap[x.b]?) : x.Has w' V :=
  ⟨fun i hi => ⟨(h.row i hi).1, by rw [World.cell?_of_block (a := ⟨x.b, x.off + i, none⟩) (hb (by omega))]; exact h.cell hi⟩, h.len⟩
theorem Ints.of_block {x : Sl} {w w' : World} {Z : Nat → Int} (h : Ints w x Z) (hb : 0 < x.n → w'.heap[x.b]? = w.heap[x.b]?) : Ints w' x Z := ⟨h.has.of_block hb, h.bd⟩

/-- zzCloneIntss behind k rounds. -/
structure Rnd (w : World) (n : Nat) (R : Nat → Sl) (Z : Nat → Nat → Int) (k : Nat) (Y : Nat → Sl) (wr : World) : Prop where
  outer : wr.rowIs w.heap.size 24 n fun i => if i < k then .slice (Y i).s (Y i).n (Y i).c else .slice none 0 0
  rows : ∀ i, i < k → Ints wr (Y i) (Z i) ∧ (Y i).n = (R i).n ∧ (Y i).c = (R i).n ∧ (0 < (Y i).n → w.heap.size < (Y i).b)
  bel : Below w.heap.size w wr

theorem Rnd.next {w : World} {n : Nat} {R : Nat → Sl} {Z : Nat → Nat → Int} {k : Nat} {Y : Nat → Sl} {wr w1 : World} {y : Sl} (h : Rnd w n R Z k Y wr) (hb : Below wr.heap.size wr w1)
    (hy : Ints w1 y (Z k)) (hn : y.n = (R k).n) (hc : y.c = (R k).n) (hyb : 0 < (R k).n → wr.heap.size ≤ y.b) :
    Rnd w n R Z (k + 1) (fun i => if i = k then y else Y i) (w1.setCell ⟨w.heap.size, k, none⟩ (.slice y.s y.n y.c)) := by
  have hlt := h.outer.lt
  have ho : w1.rowIs w.heap.size 24 n fun i => if i < k then .slice (Y i).s (Y i).n (Y i).c else .slice none 0 0 := h.outer.of_block (hb.block _ hlt)
  refine ⟨(ho.set k _).congr fun i hi => ?_, fun i hi => ?_, ?_⟩
  · by_cases e : i = k
    · subst e; simp
    · have e2 : (i < k + 1) = (i < k) := by apply propext; omega
      simp [e, e2]
  · by_cases e : i = k
    · subst e
      simp only [if_pos]
      refine ⟨hy.of_block fun h0 => ?_, hn, hc, fun h0 => ?_⟩
      · have := hyb (by omega)
        exact Below.heap_setCell _ _ _ _ (by show y.b ≠ w.heap.size; omega)
      · have := hyb (by omega)
        omega
    · simp only [if_neg e]
      obtain ⟨h1, h2, h3, h4⟩ := h.rows i (by omega)
      refine ⟨h1.of_block fun h0 => ?_, h2, h3, h4⟩
      rw [Below.heap_setCell _ _ _ _ (by show (Y i).b ≠ w.heap.size; have := h4 h0; omega)]
      exact hb.block _ (h1.has.blk h0)
  · exact (h.bel.trans (hb.mono (Nat.le_of_lt hlt))).setCell (Nat.le_refl _) _

def CopiesP (w : World) (n : Nat) (R : Nat → Sl) (Z : Nat → Nat → Int) (e : Ending) (w' : World) : Prop := ∃ (y : Sl) (Y : Nat → Sl), e = .returned (.slice y.s y.n y.c) ∧ y.n = n ∧ Intss w' y Y Z ∧ (∀ i, i < n → (Y i).n = (R i).n) ∧ Below w.heap.size w w'
theorem CopiesP.nil {w : World} {n : Nat} {R : Nat → Sl} {Z : Nat → Nat → Int} (h : n = 0) : CopiesP w n R Z (.returned (.slice none 0 0)) w :=
  ⟨⟨none, 0, 0, 0, 0⟩, R, rfl, h.symm, ⟨has_nil w _, fun i hi => absurd hi (Nat.not_lt_zero i)⟩, fun i hi => by omega, Below.refl _ _⟩
theorem CopiesP.done {w wr : World} {n : Nat} {R : Nat → Sl} {Z : Nat → Nat → Int} {Y : Nat → Sl} (h : Rnd w n R Z n Y wr) (hn : n ≤ 9223372036854775807) : CopiesP w n R Z (.returned (.slice (some ⟨w.heap.size, 0, none⟩) n n)) wr :=
  ⟨⟨some ⟨w.heap.size, 0, none⟩, n, n, w.heap.size, 0⟩, Y, rfl, rfl, ⟨⟨fun i hi => ⟨rfl, by
    show wr.cell? ⟨w.heap.size, 0 + i, none⟩ = _
    have hi' : i < n := hi
    rw [Nat.zero_add, h.outer.cell hi', if_pos hi']⟩, hn⟩, fun i hi => (h.rows i hi).1⟩, fun i hi => (h.rows i hi).2.1, h.bel⟩

set_option maxHeartbeats 400000 in
theorem cloneIntss_any (x : Sl) (R : Nat → Sl) (Z : Nat → Nat → Int) (w : World) (h : Intss w x R Z) (hn : x.n ≤ 1048576) (hr : ∀ i, i < x.n → (R i).n ≤ 1048576) :
    Calls Try.prog 17 #[.slice x.s x.n x.c] w (CopiesP w x.n R Z) := by
  have heq := fun w => Lib.run_eql_slice_nil (P := Try.prog) w 25 24 x.s x.n x.c 0 0 Try.underlying25
  cases hs : x.s.isNone with
  | true =>
    have h0 := hid (nil_len h.has (Option.isNone_iff_eq_none.1 hs))
    clear h
    go_enter Try.func17, Try.ntmps17
    go_wp2
    go_ret
    exact CopiesP.nil h0.out
  | false =>
    have hmk := run_make_row' (P := Try.prog) 25 24 (.slice none 0 0) 24 Try.underlying25 info24 rfl .i64 .i64 x.n (by omega) (by omega)
    have HN := hid hr
    clear hr
    go_enter Try.func17, Try.ntmps17
    go_wp2
    clear hmk heq
    go_loopw [4] (fun i wr => ∃ (k : Nat) (Y : Nat → Sl), k ≤ x.n ∧ i = .int .i64 k ∧ Rnd w x.n R Z k Y wr) (fun i _ => x.n - (intOf i).toNat)
    case atStart => exact ⟨0, R, Nat.zero_le _, rfl, ⟨(World.rowIs_made _ _ _ _).congr fun i _ => by simp, fun i hi => absurd hi (Nat.not_lt_zero i), (Below.refl _ _).alloc (Nat.le_refl _) _⟩⟩
    case round =>
      obtain ⟨k, Y, hk, rfl, hR⟩ := hrel
      by_cases hlt : k < x.n
      · have h' := h.below hR.bel
        have hix := idx25 h'.has k hlt
        have hc := h'.has.cell hlt
        have hcl := hid (cloneInts_any (R k) (Z k) wr (h'.rows k hlt).has (HN.out k hlt))
        have HB := hid (h'.rows k hlt).bd
        have HR := hid hR
        have HH := hid h
        clear hR h h'
        go_wp2_with fail
        refine hcl.out.mono ?_
        rintro e w1 ⟨y, rfl, hyn, hyc, hyh, hyb, hyo⟩
        have ho : w1.rowIs w.heap.size 24 x.n _ := HR.out.outer.of_block (hyb.block _ HR.out.outer.lt)
        have hcell := ho.cell hlt
        rw [if_neg (Nat.lt_irrefl k)] at hcell
        have hfz := ho.frozen k
        have HR2 := hid (HR.out.next hyb ⟨hyh, by rw [hyn]; exact HB.out⟩ hyn hyc hyo)
        clear hyn hyc hyh hyb hyo ho
        go_wp2
        go_roundw
        case rel => exact ⟨k + 1, _, by omega, by go_num, HR2.out⟩
        case measure => simp [intOf]; omega
      · have hke : k = x.n := by omega
        subst hke
        have HR := hid hR
        have HL := hid h.has.len
        clear hR h
        go_wp2
        go_ret
        exact CopiesP.done HR.out HL.out
end Go.Proofs.Qxb6601102a
