/-
  THE WALKS, H: slices.MinFunc with the closure that compares ids; 'first'.
-/
import Derived.Test.Qxb6601102aLeafs
namespace Go.Proofs.Qxb6601102a
open Go.RowKit

/-- The first of least id among the first i of z. -/
def mn (D : Dat) (z : Nat → Nat) : Nat → Nat
  | 0 => z 0
  | i + 1 => if cmpS (D.ti (z i)) (D.ti (mn D z i)) < 0 then z i else mn D z i

theorem mn_mem (D : Dat) (z : Nat → Nat) (n : Nat) (h : 0 < n) : ∃ j, j < n ∧ mn D z n = z j := by
  induction n with
  | zero => omega
  | succ n ih =>
    unfold mn
    split
    · exact ⟨n, by omega, rfl⟩
    · by_cases h0 : n = 0
      · subst h0; exact ⟨0, by omega, rfl⟩
      · obtain ⟨j, hj, e⟩ := ih (by omega)
        exact ⟨j, by omega, e⟩
theorem cmpS_self (a : ByteArray) : ¬ cmpS a a < 0 := by
  unfold cmpS
  generalize a.data.toList = l
  induction l with
  | nil => simp [Lib.compareBytes]
  | cons x l ih => simp [Lib.compareBytes]; exact Int.not_lt.1 ih
theorem mn_one (D : Dat) (z : Nat → Nat) : mn D z 1 = z 0 := by
  unfold mn
  rw [if_neg]
  · rfl
  · exact cmpS_self _

set_option maxRecDepth 100000 in
set_option maxHeartbeats 1000000 in
theorem min_any {w : World} {bc cB : Nat} {D : Dat} {ag tm : Sl} {A T Tm : Nat → Nat} {Y : Nat → Sl} (h : Env w bc cB D ag tm A T Tm Y) (y : Sl) (z : Nat → Nat) (hy : y.Has w fun j => .int .i64 (z j)) (h0 : 0 < y.n) (hz : ∀ j, j < y.n → z j < D.K) :
    Calls Try.prog 39 #[.slice y.s y.n y.c, .func (.func 40) #[] #[.pointer (some ⟨bc, 0, none⟩)]] w fun e w' => e = .returned (.int .i64 (mn D z y.n)) ∧ ∃ q, w' = w.drewN q := by
  have hlen := hy.len
  have hix0 : ∀ w', (Instr.indexAt 24 (.slice y.s y.n y.c) (.int .i64 0)).run Try.prog w' = .ok (.pointer (some ⟨y.b, y.off, none⟩)) w' := fun w' => idx24 hy 0 h0 w'
  have hc0 : w.cell? ⟨y.b, y.off, none⟩ = some (.int .i64 (z 0)) := hy.cell h0
  have h1 : ¬ y.n < 1 := by omega
  have M1 := hid (mn_one D z)
  have HE := hid h
  have HY := hid hy
  have HZ := hid hz
  clear h hy hz
  go_enter Try.func39, Try.ntmps39
  go_wp2
  clear hix0 hc0
  go_loopw [5, 6] (fun m i wr => ∃ k q : Nat, 1 ≤ k ∧ k ≤ y.n ∧ i = .int .i64 k ∧ m = .int .i64 (mn D z k) ∧ wr = w.drewN q) (fun _ i _ => y.n - (intOf i).toNat)
  case atStart => exact ⟨1, 0, Nat.le_refl _, h0, rfl, by rw [M1.out], rfl⟩
  case round =>
    obtain ⟨k, q, hk1, hk, rfl, rfl, rfl⟩ := hrel
    by_cases hlt : k < y.n
    · have hix := idx24 HY.out k hlt
      have hc := HY.out.cell hlt
      obtain ⟨j, hj, hmj⟩ := mn_mem D z k hk1
      have hcl := c40_any (HE.out.drewN q) (z k) (mn D z k) (HZ.out k hlt) (by rw [hmj]; exact HZ.out j (by omega))
      have HM : Hid (mn D z (k + 1) = if cmpS (D.ti (z k)) (D.ti (mn D z k)) < 0 then z k else mn D z k) := rfl
      generalize cmpS (D.ti (z k)) (D.ti (mn D z k)) = r at hcl HM
      have HC := hid hcl
      clear hcl hmj
      by_cases hr : r < 0
      · rw [if_pos hr] at HM
        go_wp2_with fail
        refine HC.out.mono ?_
        rintro e w' ⟨rfl, q', hw⟩
        subst hw
        go_wp2
        go_roundw
        case rel => exact ⟨k + 1, q + q', by omega, by omega, by go_num, by rw [HM.out], by first | rfl | rw [World.drewN_drewN]⟩
        case measure => simp [intOf]; omega
      · rw [if_neg hr] at HM
        go_wp2_with fail
        refine HC.out.mono ?_
        rintro e w' ⟨rfl, q', hw⟩
        subst hw
        go_wp2
        go_roundw
        case rel => exact ⟨k + 1, q + q', by omega, by omega, by go_num, by rw [HM.out], by first | rfl | rw [World.drewN_drewN]⟩
        case measure => simp [intOf]; omega
    · have hke : k = y.n := by omega
      subst hke
      go_wp2
      go_ret
      exact ⟨rfl, _, rfl⟩

theorem first_any {w : World} {bc cB : Nat} {D : Dat} {ag tm : Sl} {A T Tm : Nat → Nat} {Y : Nat → Sl} (h : Env w bc cB D ag tm A T Tm Y) (y : Sl) (z : Nat → Nat) (hy : y.Has w fun j => .int .i64 (z j)) (h0 : 0 < y.n) (hz : ∀ j, j < y.n → z j < D.K) :
    Calls Try.prog 38 #[.slice y.s y.n y.c, .pointer (some ⟨bc, 0, none⟩)] w fun e w' => e = .returned (.int .i64 (mn D z y.n)) ∧ ∃ q, w' = w.drewN q := by
  have HM := hid (min_any h y z hy h0 hz)
  clear h hy hz
  go_enter Try.func38, Try.ntmps38
  go_wp2_with fail
  refine HM.out.mono ?_
  rintro e w' ⟨rfl, q', hw⟩
  subst hw
  go_wp2
  go_ret
  exact ⟨rfl, _, rfl⟩
end Go.Proofs.Qxb6601102a
