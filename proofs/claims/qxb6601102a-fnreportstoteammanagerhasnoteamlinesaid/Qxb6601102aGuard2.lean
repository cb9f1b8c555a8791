/-
  THE WALKS, A2: zzIntss with what its answer tells of the rows.
-/
import Derived.Test.Qxb6601102aGuards
namespace Go.Proofs.Qxb6601102a
open Go.RowKit

def RowsP (n : Nat) (R : Nat → Sl) (w : World) (e : Ending) (w' : World) : Prop := ∃ m : Nat, e = .returned (.int .i64 m) ∧ w' = w ∧ m ≤ 1048577 ∧ (m ≤ 1048576 → ∀ k, k < n → (R k).n ≤ 1048576)
theorem RowsP.big {n : Nat} {R : Nat → Sl} {w : World} : RowsP n R w (.returned (.int .i64 1048577)) w := ⟨1048577, rfl, rfl, Nat.le_refl _, fun h => by omega⟩
theorem RowsP.mk {n : Nat} {R : Nat → Sl} {w : World} {m : Nat} (h : m ≤ 1048577) (hr : ∀ k, k < n → (R k).n ≤ 1048576) : RowsP n R w (.returned (.int .i64 m)) w := ⟨m, rfl, rfl, h, fun _ => hr⟩

set_option maxHeartbeats 400000 in
theorem intss_rows (x : Sl) (R : Nat → Sl) (Z : Nat → Nat → Int) (w : World) (h : Intss w x R Z) : Calls Try.prog 12 #[.slice x.s x.n x.c] w (RowsP x.n R w) := by
  have hlen := h.has.len
  by_cases hbig : 1048576 < x.n
  · go_enter Try.func12, Try.ntmps12
    go_wp2
    go_ret
    exact RowsP.big
  · go_enter Try.func12, Try.ntmps12
    go_wp2
    go_loop [3, 14, 5] (fun s i _ => ∃ k m : Nat, k ≤ x.n ∧ i = .int .i64 k ∧ s = .int .i64 m ∧ m ≤ 30000000 ∧ ∀ j, j < k → (R j).n ≤ 1048576) (fun _ i _ => x.n - (intOf i).toNat)
    case atStart => exact ⟨0, 24 * x.n, Nat.zero_le _, rfl, by go_num, by omega, fun j hj => absurd hj (Nat.not_lt_zero j)⟩
    case round =>
      obtain ⟨k, m, hk, rfl, rfl, hm, hd⟩ := hrel
      have HD := hid hd
      clear hd
      by_cases hlt : k < x.n
      · have hix := idx25 h.has k hlt
        have hc := h.has.cell hlt
        have hsz := (h.rows k hlt).has.len
        by_cases hb2 : 1048576 < (R k).n
        · clear h
          go_wp2
          go_ret
          exact RowsP.big
        · have hb3 : (R k).n ≤ 1048576 := by omega
          have E1 : Hid ((m : Int) + 8 * ((R k).n : Int) = ((m + 8 * (R k).n : Nat) : Int)) := by unfold Hid; omega
          have HD2 : Hid (∀ j, j < k + 1 → (R j).n ≤ 1048576) := fun j hj => by
            by_cases e : j = k
            · rw [e]; exact hb3
            · exact HD.out j (by omega)
          clear h
          go_wp2_with fail
          rw [E1.out]
          refine (capped_any _ _).mono ?_
          rintro e w' ⟨m', rfl, hw, hm'⟩
          subst hw
          go_wp2
          go_round
          case rel => exact ⟨k + 1, m', by omega, by go_num, rfl, by omega, HD2.out⟩
          case measure => simp [intOf]; omega
      · have HD2 : Hid (∀ j, j < x.n → (R j).n ≤ 1048576) := fun j hj => HD.out j (by omega)
        clear h
        go_wp2_with fail
        refine (capped_any _ _).mono ?_
        rintro e w' ⟨m', rfl, hw, hm'⟩
        subst hw
        go_wp2
        go_ret
        exact RowsP.mk hm' HD2.out
end Go.Proofs.Qxb6601102a
