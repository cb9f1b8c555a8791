/-
  THE WALKS, A: the size guards: zzCapped, zzStrs, zzBools, zzInts, zzIntss, zzTeamsFit, zzNames, zzIn.
-/
import Derived.Test.Qxb6601102aViews
namespace Go.Proofs.Qxb6601102a
open Go.RowKit

/-- An int between 0 and the cap and one comes back; the world is as it was. -/
def CapP (w : World) (e : Ending) (w' : World) : Prop := ∃ m : Nat, e = .returned (.int .i64 m) ∧ w' = w ∧ m ≤ 1048577
theorem CapP.mk {w : World} {m : Nat} (h : m ≤ 1048577) : CapP w (.returned (.int .i64 m)) w := ⟨m, rfl, rfl, h⟩
theorem CapP.mk' {w : World} {z : Int} (m : Nat) (e : z = m) (h : m ≤ 1048577) : CapP w (.returned (.int .i64 z)) w := ⟨m, by rw [e], rfl, h⟩

theorem capped_any (m : Nat) (w : World) : Calls Try.prog 33 #[.int .i64 m] w (CapP w) := by
  by_cases h : 1048576 < m
  · go_enter Try.func33, Try.ntmps33
    go_wp2
    go_ret
    exact CapP.mk' 1048577 rfl (Nat.le_refl _)
  · go_enter Try.func33, Try.ntmps33
    go_wp2
    go_ret
    exact CapP.mk (by omega)

theorem bools_any (x : Sl) (w : World) : Calls Try.prog 10 #[.slice x.s x.n x.c] w (CapP w) := by
  go_enter Try.func10, Try.ntmps10
  go_wp2_with fail
  refine (capped_any _ _).mono ?_
  rintro e w' ⟨m, rfl, hw, hm⟩
  subst hw
  go_wp2
  go_ret
  exact CapP.mk hm

theorem ints_any (x : Sl) (w : World) : Calls Try.prog 11 #[.slice x.s x.n x.c] w (CapP w) := by
  by_cases h : 1048576 < x.n
  · go_enter Try.func11, Try.ntmps11
    go_wp2
    go_ret
    exact CapP.mk' 1048577 rfl (Nat.le_refl _)
  · have e8 : (8 : Int) * (x.n : Int) = ((8 * x.n : Nat) : Int) := by omega
    have E8 := hid e8
    clear e8
    go_enter Try.func11, Try.ntmps11
    go_wp2_with fail
    rw [E8.out]
    refine (capped_any _ _).mono ?_
    rintro e w' ⟨m, rfl, hw, hm⟩
    subst hw
    go_wp2
    go_ret
    exact CapP.mk hm

set_option maxHeartbeats 400000 in
theorem strs_any (x : Sl) (S : Nat → ByteArray) (w : World) (h : Strs w x S) : Calls Try.prog 9 #[.slice x.s x.n x.c] w (CapP w) := by
  have hlen := h.has.len
  by_cases hbig : 1048576 < x.n
  · go_enter Try.func9, Try.ntmps9
    go_wp2
    go_ret
    exact CapP.mk' 1048577 rfl (Nat.le_refl _)
  · go_enter Try.func9, Try.ntmps9
    go_wp2
    go_loop [3, 14, 5] (fun s i _ => ∃ k m : Nat, k ≤ x.n ∧ i = .int .i64 k ∧ s = .int .i64 m ∧ m ≤ 30000000) (fun _ i _ => x.n - (intOf i).toNat)
    case atStart => exact ⟨0, 16 * x.n, Nat.zero_le _, rfl, by go_num, by omega⟩
    case round =>
      obtain ⟨k, m, hk, rfl, rfl, hm⟩ := hrel
      by_cases hlt : k < x.n
      · have hix := idx22 h.has k hlt
        have hc := h.has.cell hlt
        have hsz := h.size k hlt
        by_cases hb2 : 1048576 < (S k).size
        · clear h
          go_wp2
          go_ret
          exact CapP.mk' 1048577 rfl (Nat.le_refl _)
        · have hb3 : (S k).size ≤ 1048576 := by omega
          have E1 : Hid ((m : Int) + ((S k).size : Int) = ((m + (S k).size : Nat) : Int)) := by unfold Hid; omega
          clear h
          go_wp2_with fail
          rw [E1.out]
          refine (capped_any _ _).mono ?_
          rintro e w' ⟨m', rfl, hw, hm'⟩
          subst hw
          go_wp2
          go_round
          case rel => exact ⟨k + 1, m', by omega, by go_num, rfl, by omega⟩
          case measure => simp [intOf]; omega
      · clear h
        go_wp2_with fail
        refine (capped_any _ _).mono ?_
        rintro e w' ⟨m', rfl, hw, hm'⟩
        subst hw
        go_wp2
        go_ret
        exact CapP.mk hm'

set_option maxHeartbeats 400000 in
theorem intss_any (x : Sl) (R : Nat → Sl) (Z : Nat → Nat → Int) (w : World) (h : Intss w x R Z) : Calls Try.prog 12 #[.slice x.s x.n x.c] w (CapP w) := by
  have hlen := h.has.len
  by_cases hbig : 1048576 < x.n
  · go_enter Try.func12, Try.ntmps12
    go_wp2
    go_ret
    exact CapP.mk' 1048577 rfl (Nat.le_refl _)
  · go_enter Try.func12, Try.ntmps12
    go_wp2
    go_loop [3, 14, 5] (fun s i _ => ∃ k m : Nat, k ≤ x.n ∧ i = .int .i64 k ∧ s = .int .i64 m ∧ m ≤ 30000000) (fun _ i _ => x.n - (intOf i).toNat)
    case atStart => exact ⟨0, 24 * x.n, Nat.zero_le _, rfl, by go_num, by omega⟩
    case round =>
      obtain ⟨k, m, hk, rfl, rfl, hm⟩ := hrel
      by_cases hlt : k < x.n
      · have hix := idx25 h.has k hlt
        have hc := h.has.cell hlt
        have hsz := (h.rows k hlt).has.len
        by_cases hb2 : 1048576 < (R k).n
        · clear h
          go_wp2
          go_ret
          exact CapP.mk' 1048577 rfl (Nat.le_refl _)
        · have hb3 : (R k).n ≤ 1048576 := by omega
          have E1 : Hid ((m : Int) + 8 * ((R k).n : Int) = ((m + 8 * (R k).n : Nat) : Int)) := by unfold Hid; omega
          clear h
          go_wp2_with fail
          rw [E1.out]
          refine (capped_any _ _).mono ?_
          rintro e w' ⟨m', rfl, hw, hm'⟩
          subst hw
          go_wp2
          go_round
          case rel => exact ⟨k + 1, m', by omega, by go_num, rfl, by omega⟩
          case measure => simp [intOf]; omega
      · clear h
        go_wp2_with fail
        refine (capped_any _ _).mono ?_
        rintro e w' ⟨m', rfl, hw, hm'⟩
        subst hw
        go_wp2
        go_ret
        exact CapP.mk hm'

/-! ### zzNames, zzIn -/
def hasB (n : Nat) (z : Nat → Int) (x : Int) : Bool := (List.range n).any fun i => z i == x
theorem hasB_iff {n : Nat} {z : Nat → Int} {x : Int} : hasB n z x = true ↔ ∃ i, i < n ∧ z i = x := by
  unfold hasB
  rw [List.any_eq_true]
  constructor
  · rintro ⟨i, hi, h⟩
    exact ⟨i, List.mem_range.1 hi, by simpa using h⟩
  · rintro ⟨i, hi, h⟩
    exact ⟨i, List.mem_range.2 hi, by simpa using h⟩
theorem hasB_false {n : Nat} {z : Nat → Int} {x : Int} (h : ¬ ∃ i, i < n ∧ z i = x) : hasB n z x = false := by
  cases e : hasB n z x with
  | false => rfl
  | true => exact absurd (hasB_iff.1 e) h
def inB (n : Nat) (S : Nat → ByteArray) (s : ByteArray) : Bool := (List.range n).any fun i => (S i).toList == s.toList
theorem inB_true {n : Nat} {S : Nat → ByteArray} {s : ByteArray} {i : Nat} (hi : i < n) (h : ((S i).toList == s.toList) = true) : inB n S s = true := by
  unfold inB
  rw [List.any_eq_true]
  exact ⟨i, List.mem_range.2 hi, h⟩
theorem inB_false {n : Nat} {S : Nat → ByteArray} {s : ByteArray} (h : ∀ i, i < n → ((S i).toList == s.toList) = false) : inB n S s = false := by
  unfold inB
  rw [List.any_eq_false]
  intro i hi
  rw [h i (List.mem_range.1 hi)]
  exact Bool.false_ne_true

set_option maxHeartbeats 400000 in
theorem names_any (x : Sl) (Z : Nat → Int) (y : Int) (w : World) (h : Ints w x Z) :
    Calls Try.prog 22 #[.slice x.s x.n x.c, .int .i64 y] w fun e w' => e = .returned (.bool (hasB x.n Z y)) ∧ w' = w := by
  have hlen := h.has.len
  go_enter Try.func22, Try.ntmps22
  go_wp2
  go_loop [9, 6] (fun i _ => ∃ k : Nat, k ≤ x.n ∧ i = .int .i64 k ∧ (∀ j, j < k → Z j ≠ y)) (fun i _ => x.n - (intOf i).toNat)
  case atStart => exact ⟨0, Nat.zero_le _, rfl, fun j h => absurd h (Nat.not_lt_zero j)⟩
  case round =>
    obtain ⟨k, hk, rfl, hd⟩ := hrel
    have HD := hid hd
    clear hd
    by_cases hlt : k < x.n
    · have hix := idx24 h.has k hlt
      have hc := h.has.cell hlt
      have hz : Hid ((Z k == y) = true → Z k = y) := fun e => (beq_iff_eq.1 e)
      have hz2 : Hid ((Z k == y) = false → Z k ≠ y) := fun e h => beq_eq_false_iff_ne.1 e h
      clear h
      go_wp2
      · go_ret
        exact ⟨ret_bool (hasB_iff.2 ⟨k, hlt, hz.out ‹_›⟩).symm, rfl⟩
      · go_round
        case rel => exact ⟨k + 1, by omega, by go_num, fun j hj => by
          by_cases e : j = k
          · subst e; exact hz2.out ‹_›
          · exact HD.out j (by omega)⟩
        case measure => simp [intOf]; omega
    · clear h
      go_wp2
      go_ret
      exact ⟨ret_bool (hasB_false fun ⟨i, hi, he⟩ => HD.out i (by omega) he).symm, rfl⟩

set_option maxHeartbeats 400000 in
theorem in_any (x : Sl) (S : Nat → ByteArray) (y : ByteArray) (w : World) (h : Strs w x S) :
    Calls Try.prog 23 #[.slice x.s x.n x.c, .string y] w fun e w' => e = .returned (.bool (inB x.n S y)) ∧ w' = w := by
  have hlen := h.has.len
  go_enter Try.func23, Try.ntmps23
  go_wp2
  go_loop [9, 6] (fun i _ => ∃ k : Nat, k ≤ x.n ∧ i = .int .i64 k ∧ (∀ j, j < k → ((S j).toList == y.toList) = false)) (fun i _ => x.n - (intOf i).toNat)
  case atStart => exact ⟨0, Nat.zero_le _, rfl, fun j h => absurd h (Nat.not_lt_zero j)⟩
  case round =>
    obtain ⟨k, hk, rfl, hd⟩ := hrel
    have HD := hid hd
    clear hd
    by_cases hlt : k < x.n
    · have hix := idx22 h.has k hlt
      have hc := h.has.cell hlt
      clear h
      go_wp2
      · go_ret
        exact ⟨ret_bool (inB_true hlt ‹_›).symm, rfl⟩
      · go_round
        case rel => exact ⟨k + 1, by omega, by go_num, fun j hj => by
          by_cases e : j = k
          · subst e; assumption
          · exact HD.out j (by omega)⟩
        case measure => simp [intOf]; omega
    · clear h
      go_wp2
      go_ret
      exact ⟨ret_bool (inB_false fun i hi => HD.out i (by omega)).symm, rfl⟩

/-! ### zzTeamsFit -/
structure Fit (n K : Nat) (M : Nat → Int) (R : Nat → Sl) (Z : Nat → Nat → Int) : Prop where
  mgr : ∀ k, k < K → M k < n
  nm : ∀ k, k < K → ∀ j, j < (R k).n → 0 ≤ Z k j ∧ Z k j < n

def FitP (n K : Nat) (M : Nat → Int) (R : Nat → Sl) (Z : Nat → Nat → Int) (w : World) (e : Ending) (w' : World) : Prop := ∃ b : Bool, e = .returned (.bool b) ∧ w' = w ∧ (b = true → Fit n K M R Z)
theorem FitP.no {n K : Nat} {M : Nat → Int} {R : Nat → Sl} {Z : Nat → Nat → Int} {w : World} : FitP n K M R Z w (.returned (.bool false)) w := ⟨false, rfl, rfl, fun h => by cases h⟩
theorem FitP.yes {n K : Nat} {M : Nat → Int} {R : Nat → Sl} {Z : Nat → Nat → Int} {w : World} (h : Fit n K M R Z) : FitP n K M R Z w (.returned (.bool true)) w := ⟨true, rfl, rfl, fun _ => h⟩

set_option maxHeartbeats 400000 in
theorem fit_any (n : Nat) (x : Sl) (M : Nat → Int) (y : Sl) (R : Nat → Sl) (Z : Nat → Nat → Int) (w : World) (hx : Ints w x M) (hy : Intss w y R Z) (hxy : y.n = x.n) :
    Calls Try.prog 13 #[.int .i64 n, .slice x.s x.n x.c, .slice y.s y.n y.c] w (FitP n x.n M R Z w) := by
  have hlen := hx.has.len
  have HXY := hid hxy
  clear hxy
  go_enter Try.func13, Try.ntmps13
  go_wp2
  go_loop [7, 9] (fun i _ => ∃ k : Nat, k ≤ x.n ∧ i = .int .i64 k ∧ Fit n k M R Z) (fun i _ => x.n - (intOf i).toNat)
  case atStart => exact ⟨0, Nat.zero_le _, rfl, ⟨fun j h => absurd h (Nat.not_lt_zero j), fun j h => absurd h (Nat.not_lt_zero j)⟩⟩
  case round =>
    obtain ⟨k, hk, rfl, hd⟩ := hrel
    have HD := hid hd
    clear hd
    by_cases hlt : k < x.n
    · have hlt2 : k < y.n := by rw [HXY.out]; exact hlt
      have hix := idx24 hx.has k hlt
      have hc := hx.has.cell hlt
      have hix2 := idx25 hy.has k hlt2
      have hc2 := hy.has.cell hlt2
      have hl2 := (hy.rows k hlt2).has.len
      by_cases hm : M k < n
      · go_wp2
        go_loop [27, 9] (fun i _ => ∃ j : Nat, j ≤ (R k).n ∧ i = .int .i64 j ∧ (∀ q, q < j → 0 ≤ Z k q ∧ Z k q < n)) (fun i _ => (R k).n - (intOf i).toNat)
        case atStart => exact ⟨0, Nat.zero_le _, rfl, fun j h => absurd h (Nat.not_lt_zero j)⟩
        case round =>
          obtain ⟨j, hj, rfl, hd⟩ := hrel
          have HJ := hid hd
          clear hd
          by_cases hjt : j < (R k).n
          · have hix3 := idx24 (hy.rows k hlt2).has j hjt
            have hc3 := (hy.rows k hlt2).has.cell hjt
            by_cases hz0 : Z k j < 0
            · go_wp2
              go_ret
              exact FitP.no
            · by_cases hz1 : Z k j < n
              · go_wp2
                go_round
                case rel => exact ⟨j + 1, by omega, by go_num, fun q hq => by
                  by_cases e : q = j
                  · subst e; omega
                  · exact HJ.out q (by omega)⟩
                case measure => simp [intOf]; omega
              · go_wp2
                go_ret
                exact FitP.no
          · have hje : j = (R k).n := by omega
            subst hje
            go_wp2
            go_round
            case rel => exact ⟨k + 1, by omega, by go_num, ⟨fun q hq => by
                by_cases e : q = k
                · subst e; exact hm
                · exact HD.out.mgr q (by omega), fun q hq => by
                by_cases e : q = k
                · subst e; exact HJ.out
                · exact HD.out.nm q (by omega)⟩⟩
            case measure => simp [intOf]; omega
      · go_wp2
        go_ret
        exact FitP.no
    · go_wp2
      go_ret
      exact FitP.yes ⟨fun q hq => HD.out.mgr q (by omega), fun q hq => HD.out.nm q (by omega)⟩

end Go.Proofs.Qxb6601102a
