/-
  THE WALKS, Q: zzNoRepeats.
-/
import Derived.Test.Qxb6601102aRnd
import Derived.Test.Qxb6601102aGuards
namespace Go.Proofs.Qxb6601102a
open Go.RowKit

/-- The stamps, in a row of the call's own. -/
structure St (w : World) (n : Nat) (st : Nat → Int) (wr : World) : Prop where
  row : wr.rowIs w.heap.size 3 n fun j => .int .i64 (st j)
  bel : Below w.heap.size w wr
theorem St.set {w : World} {n : Nat} {st : Nat → Int} {wr : World} (h : St w n st wr) (i : Nat) (v : Int) : St w n (fun j => if j = i then v else st j) (wr.setCell ⟨w.heap.size, i, none⟩ (.int .i64 v)) :=
  ⟨(h.row.set i _).congr fun j _ => by
    by_cases e : j = i
    · simp [e]
    · simp [e], h.bel.setCell (Nat.le_refl _) _⟩

def OnceTo (R : Nat → Sl) (Z : Nat → Nat → Int) (K : Nat) : Prop := ∀ k, k < K → ∀ a b, a < (R k).n → b < (R k).n → Z k a = Z k b → a = b
def NoRepP (K : Nat) (R : Nat → Sl) (Z : Nat → Nat → Int) (w : World) (e : Ending) (w' : World) : Prop := ∃ b : Bool, e = .returned (.bool b) ∧ Below w.heap.size w w' ∧ (b = true → OnceTo R Z K)

/-- The stamps within team k, the first j entries seen. -/
structure Seen (st : Nat → Int) (Z : Nat → Nat → Int) (k j : Nat) : Prop where
  st : ∀ a, a < j → st (Z k a).toNat = (k : Int)
  once : ∀ a b, a < j → b < j → Z k a = Z k b → a = b
theorem Seen.next {st : Nat → Int} {Z : Nat → Nat → Int} {k j i : Nat} (h : Seen st Z k j) (hi : Z k j = (i : Int)) (hne : st i ≠ (k : Int)) : Seen (fun x => if x = i then (k : Int) else st x) Z k (j + 1) := by
  have hz : (Z k j).toNat = i := by omega
  have old : ∀ a, a < j → Z k a ≠ Z k j := fun a ha e => hne (by rw [← hz, ← e]; exact h.st a ha)
  refine ⟨fun a ha => ?_, fun a b ha hb e => ?_⟩
  · by_cases e : (Z k a).toNat = i
    · simp [e]
    · have : a ≠ j := fun e2 => e (by rw [e2]; exact hz)
      rw [if_neg e]
      exact h.st a (by omega)
  · by_cases e1 : a = j <;> by_cases e2 : b = j
    · omega
    · subst e1; exact absurd e.symm (old b (by omega))
    · subst e2; exact absurd e (old a (by omega))
    · exact h.once a b (by omega) (by omega) e

set_option maxRecDepth 100000 in
set_option maxHeartbeats 2000000 in
theorem norep_any (n : Nat) (y : Sl) (R : Nat → Sl) (Z : Nat → Nat → Int) (w : World) (hy : Intss w y R Z) (hn : n ≤ 4096) (hK : y.n ≤ 4096) (hz : ∀ k, k < y.n → ∀ j, j < (R k).n → 0 ≤ Z k j ∧ Z k j < n) :
    Calls Try.prog 21 #[.int .i64 n, .slice y.s y.n y.c] w (NoRepP y.n R Z w) := by
  have hmk := run_make_row' (P := Try.prog) 24 3 (.int .i64 0) 8 Try.underlying24 info3 rfl .i64 .i64 n (by omega) (by omega)
  have HY := hid hy
  have HZ := hid hz
  have HS0 : Hid (St w n (fun _ => 0) (w.alloc (.cells (madeCells #[.int .i64 0] n) 3))) := ⟨(World.rowIs_made _ _ _ _).congr fun _ _ => rfl, (Below.refl _ _).alloc (Nat.le_refl _) _⟩
  clear hy hz
  go_enter Try.func21, Try.ntmps21
  go_wp2
  clear hmk
  generalize w.alloc (.cells (madeCells #[.int .i64 0] n) 3) = W0 at HS0 ⊢
  go_loopw [6] (fun i wr => ∃ (i' : Nat) (st : Nat → Int), i' ≤ n ∧ i = .int .i64 i' ∧ St w n st wr) (fun i _ => n - (intOf i).toNat)
  case atStart => exact ⟨0, _, Nat.zero_le _, rfl, HS0.out⟩
  case round =>
    obtain ⟨i, st, hi, rfl, hS⟩ := hrel
    by_cases hlt : i < n
    · have hc := hS.row.cell hlt
      have hf := hS.row.frozen i
      have HS := hid (hS.set i (-1))
      clear hS
      go_wp2
      go_roundw
      case rel => exact ⟨i + 1, _, by omega, by go_num, HS.out⟩
      case measure => simp [intOf]; omega
    · have HS := hid hS
      clear hS
      go_wp2
      go_loopw [7] (fun k wr => ∃ (k' : Nat) (st : Nat → Int), k' ≤ y.n ∧ k = .int .i64 k' ∧ St w n st wr ∧ OnceTo R Z k') (fun k _ => y.n - (intOf k).toNat)
      case atStart => exact ⟨0, st, Nat.zero_le _, rfl, HS.out, fun k hk => absurd hk (Nat.not_lt_zero k)⟩
      case round =>
        obtain ⟨k, st, hk, rfl, hS, hO⟩ := hrel
        by_cases hkt : k < y.n
        · have hY := hid (HY.out.below hS.bel)
          have hix := idx25 hY.out.has k hkt
          have hc := hY.out.has.cell hkt
          have hl := (hY.out.rows k hkt).has.len
          have HO := hid hO
          have HS := hid hS
          clear hS hO
          go_wp2
          go_loopw [31] (fun j wr => ∃ (j' : Nat) (st : Nat → Int), j' ≤ (R k).n ∧ j = .int .i64 j' ∧ St w n st wr ∧ Seen st Z k j') (fun j _ => (R k).n - (intOf j).toNat)
          case atStart => exact ⟨0, st, Nat.zero_le _, rfl, HS.out, ⟨fun a ha => absurd ha (Nat.not_lt_zero a), fun a b ha => absurd ha (Nat.not_lt_zero a)⟩⟩
          case round =>
            obtain ⟨j, st, hj, rfl, hS, hN⟩ := hrel
            by_cases hjt : j < (R k).n
            · have hY2 := hid (HY.out.below hS.bel)
              have hix2 := idx24 (hY2.out.rows k hkt).has j hjt
              have hcj := (hY2.out.rows k hkt).has.cell hjt
              obtain ⟨z1, z2⟩ := HZ.out k hkt j hjt
              obtain ⟨i, hi⟩ := Int.eq_ofNat_of_zero_le z1
              have HZI := hid hi
              rw [hi] at hcj z2
              clear z1 hi
              have hin : i < n := by omega
              have hcs := hS.row.cell hin
              have hfs := hS.row.frozen i
              by_cases hst : st i = (k : Int)
              · have hst' : (st i == (k : Int)) = true := by rw [beq_iff_eq]; exact hst
                have HR : Hid (NoRepP y.n R Z w (.returned (.bool false)) wr) := ⟨false, rfl, hS.bel, fun h => by cases h⟩
                clear hS hN hst
                go_wp2
                go_ret
                exact HR.out
              · have hst' : (st i == (k : Int)) = false := by rw [beq_eq_false_iff_ne]; exact hst
                have HS := hid (hS.set i (k : Int))
                have HN := hid (hN.next HZI.out hst)
                clear hS hN hst
                go_wp2
                go_roundw
                case rel => exact ⟨j + 1, _, by omega, by go_num, HS.out, HN.out⟩
                case measure => simp [intOf]; omega
            · have HO2 : Hid (OnceTo R Z (k + 1)) := by
                intro k' hk' a b ha hb e
                by_cases ek : k' = k
                · subst ek; exact hN.once a b (by omega) (by omega) e
                · exact HO.out k' (by omega) a b ha hb e
              have HS := hid hS
              clear hS hN
              go_wp2
              go_roundw
              case rel => exact ⟨k + 1, st, by omega, by go_num, HS.out, HO2.out⟩
              case measure => simp [intOf]; omega
        · have hke : k = y.n := by omega
          subst hke
          have HR : Hid (NoRepP y.n R Z w (.returned (.bool true)) wr) := ⟨true, rfl, hS.bel, fun _ => hO⟩
          clear hS hO
          go_wp2
          go_ret
          exact HR.out
end Go.Proofs.Qxb6601102a
