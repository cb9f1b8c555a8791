/-
  Seat b6601041a: (*run).at: does the run fit at i.
-/
import Derived.Test.Qxb6601041aFind2
namespace Go.Proofs.Qxb6601041a
open Go.RowKit

def AtP (w : World) (n m : Nat) (C V : Nat → Int) (i : Nat) (e : Ending) (w' : World) : Prop := ∃ (b : Bool) (q : Nat), e = .returned (.bool b) ∧ w' = w.drewN q ∧ (b = true ↔ i + m ≤ n ∧ Fit m C V i)
theorem AtP.mk {w : World} {n m : Nat} {C V : Nat → Int} {i q : Nat} {b : Bool} (h : b = true ↔ i + m ≤ n ∧ Fit m C V i) : AtP w n m C V i (.returned (.bool b)) (w.drewN q) := ⟨b, q, rfl, rfl, h⟩

set_option maxRecDepth 100000 in
set_option maxHeartbeats 1000000 in
theorem at_any {w : World} {rb fb : Nat} {x y z : Sl} {C V : Nat → Int} {W : Nat → Bool} (f1 : w.cell? ⟨rb, 1, none⟩ = some (.slice x.s x.n x.c)) (hx : Runes w x C) (hf : Fold w fb y z V W) (i : Nat) (hi : i ≤ 1048576) (hxb : x.n ≤ 1048576) :
    Calls Try.prog 43 #[.pointer (some ⟨rb, 0, none⟩), .pointer (some ⟨fb, 0, none⟩), .int .i64 i] w (AtP w y.n x.n C V i) := by
  have v0 := hf.f0
  have hyb : y.n ≤ 1048576 := hf.big
  have HX := hid hx
  have HF := hid hf
  clear hx hf
  go_enter Try.func43, Try.ntmps43
  go_upto_region 1 with fail
  go_quiet (fail)
  by_cases hle : i + x.n ≤ y.n
  rotate_left
  · go_wp2
    go_ret
    exact AtP.mk (by simp [hle])
  generalize hwq : w.drewN nq = wq
  have g1 : wq.cell? ⟨rb, 1, none⟩ = some (.slice x.s x.n x.c) := by rw [← hwq]; exact f1
  have g0 : wq.cell? ⟨fb, 0, none⟩ = some (.slice y.s y.n y.c) := by rw [← hwq]; exact v0
  have HXq : Hid (Runes wq x C) := by rw [← hwq]; exact hid (HX.out.drewN nq)
  have HYq : Hid (Runes wq y V) := by rw [← hwq]; exact hid (HF.out.hx.drewN nq)
  have HWQ := hid hwq
  clear hwq f1 v0
  go_wp2
  go_loop [27] (fun a => ∃ k : Nat, a = .int .i64 k ∧ k ≤ x.n ∧ Hid (∀ p, p < k → Ok C p (V (i + p)))) (fun a => x.n - (intOf a).toNat)
  case atStart => exact ⟨0, rfl, Nat.zero_le _, fun p hp => absurd hp (Nat.not_lt_zero _)⟩
  obtain ⟨k, rfl, hk, HK⟩ := hrel
  by_cases hlt : k < x.n
  · have hix := idx22 HXq.out k hlt
    have hc := HXq.out.cell hlt
    have hiy := idx22 HYq.out (i + k) (by omega)
    have hcy := HYq.out.cell (i := i + k) (by omega)
    rw [Int.natCast_add] at hiy
    by_cases hC : C k = -1
    · have hCb : (C k != -1) = false := by simp [hC]
      go_wp2
      go_round
      case rel => exact ⟨k + 1, by go_num, by omega, fun p hp => by
        rcases Nat.lt_or_ge p k with h1 | h1
        · exact HK.out p h1
        · obtain rfl : p = k := by omega
          exact Or.inl hC⟩
      case measure => simp [intOf]; omega
    · have hCb : (C k != -1) = true := by simp [hC]
      by_cases hE : C k = V (i + k)
      · have hEb : (C k != V (i + k)) = false := by simp [hE]
        have HE := hid hE
        clear hE
        go_wp2
        go_round
        case rel => exact ⟨k + 1, by go_num, by omega, fun p hp => by
          rcases Nat.lt_or_ge p k with h1 | h1
          · exact HK.out p h1
          · obtain rfl : p = k := by omega
            exact Or.inr HE.out⟩
        case measure => simp [intOf]; omega
      · have hEb : (C k != V (i + k)) = true := by simp [hE]
        have hno : ¬ Fit x.n C V i := fun h => by
          rcases h k hlt with h1 | h1
          · exact hC h1
          · exact hE h1
        have HNO := hid hno
        clear hno
        go_wp2
        go_ret
        rw [← HWQ.out]
        exact AtP.mk (by simp [HNO.out])
  · obtain rfl : k = x.n := by omega
    go_wp2
    go_ret
    rw [← HWQ.out]
    exact AtP.mk (by simp only [true_iff]; exact ⟨hle, HK.out⟩)
end Go.Proofs.Qxb6601041a
