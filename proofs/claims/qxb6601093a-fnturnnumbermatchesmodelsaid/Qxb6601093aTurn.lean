/-
  THE WALK of turnNumber (27) and of its door ZZturnNumber (18): they return 'turnL' of the bytes; the world is as it was.
-/
import Derived.Test.Qxb6601093aRows
import Derived.Test.Qxb6601093aPlain
import Derived.WalkKit
import Derived.WalkSpells
import Derived.WalkLawsBesides
namespace Go.Proofs.Qxb6601093a
open Go.RowKit

theorem ret_str {a b : ByteArray} (h : a = b) : Ending.returned (.string a) = .returned (.string b) := by rw [h]

theorem dig_out {c : UInt8} (h : (c.toNat : Int) < 48 ∨ 57 < (c.toNat : Int)) : dig c = false := by
  unfold dig; simp; omega
theorem dig_in {c : UInt8} (h : 48 ≤ (c.toNat : Int) ∧ (c.toNat : Int) ≤ 57) : dig c = true := by
  unfold dig; simp; omega
theorem dig_next {n : ByteArray} {k : Nat} (hd : ∀ j (hj : j < n.size), j < k → dig n[j] = true) {hk : k < n.size} (h : dig n[k] = true) :
    ∀ j (hj : j < n.size), j < k + 1 → dig n[j] = true := by
  intro j hj hjk
  by_cases e : j = k
  · subst e; exact h
  · exact hd j hj (by omega)

set_option maxHeartbeats 400000 in
theorem turn_any (s : ByteArray) (w : World) (hs : s.size ≤ maxLen) :
    Calls Try.prog 27 #[.string s] w fun e w' => e = .returned (.string (str (turnL s.data.toList))) ∧ w' = w := by
  unfold maxLen at hs
  go_enter Try.func27, Try.ntmps27
  go_wp2
  · go_ret
    exact ⟨ret_str (by rw [turn_nopre s ‹_›]; rfl), rfl⟩
  · go_ret
    exact ⟨ret_str (by rw [turn_zero s ‹_›]; rfl), rfl⟩
  · have hg : Hid (∀ (h3 : ∀ j (hj : j < (s.extract 5 s.size).size), dig (s.extract 5 s.size)[j] = true), str (turnL s.data.toList) = s.extract 5 s.size) := fun h3 => turn_good s ‹_› (Or.inr ‹_›) h3
    have hb : Hid (∀ k (hk : k < (s.extract 5 s.size).size), dig (s.extract 5 s.size)[k] = false → turnL s.data.toList = []) := fun k hk h => turn_bad s k hk h
    have hn : (s.extract 5 s.size).size ≤ 9223372036854775807 := by rw [← size_list, ext_end, List.length_drop, size_list]; omega
    generalize s.extract 5 s.size = n at *
    go_loop [5] (fun i => ∃ k : Nat, k ≤ n.size ∧ i = .int .i64 k ∧ (∀ j (hj : j < n.size), j < k → dig n[j] = true)) (fun i => n.size - (intOf i).toNat)
    case atStart => exact ⟨0, Nat.zero_le _, rfl, fun j _ h => absurd h (Nat.not_lt_zero j)⟩
    case round =>
      obtain ⟨k, hk, rfl, hd⟩ := hrel
      by_cases hlt : k < n.size
      · go_wp2
        · go_ret
          exact ⟨ret_str (by rw [hb.out k hlt (dig_out ‹_›)]; rfl), rfl⟩
        · go_round
          case rel => exact ⟨k + 1, by omega, by go_num, dig_next hd (dig_in ‹_›)⟩
          case measure => simp [intOf]; omega
        · go_ret
          exact ⟨ret_str (by rw [hb.out k hlt (dig_out (Or.inl ‹_›))]; rfl), rfl⟩
      · go_wp2
        go_ret
        exact ⟨ret_str (hg.out (fun j hj => hd j hj (by omega))).symm, rfl⟩
  · have hg : Hid (∀ (h3 : ∀ j (hj : j < (s.extract 5 s.size).size), dig (s.extract 5 s.size)[j] = true), str (turnL s.data.toList) = s.extract 5 s.size) := fun h3 => turn_good s ‹_› (Or.inl (by rw [← size_list, ext_end, List.length_drop, size_list]; omega)) h3
    have hb : Hid (∀ k (hk : k < (s.extract 5 s.size).size), dig (s.extract 5 s.size)[k] = false → turnL s.data.toList = []) := fun k hk h => turn_bad s k hk h
    have hn : (s.extract 5 s.size).size ≤ 9223372036854775807 := by rw [← size_list, ext_end, List.length_drop, size_list]; omega
    generalize s.extract 5 s.size = n at *
    go_loop [5] (fun i => ∃ k : Nat, k ≤ n.size ∧ i = .int .i64 k ∧ (∀ j (hj : j < n.size), j < k → dig n[j] = true)) (fun i => n.size - (intOf i).toNat)
    case atStart => exact ⟨0, Nat.zero_le _, rfl, fun j _ h => absurd h (Nat.not_lt_zero j)⟩
    case round =>
      obtain ⟨k, hk, rfl, hd⟩ := hrel
      by_cases hlt : k < n.size
      · go_wp2
        · go_ret
          exact ⟨ret_str (by rw [hb.out k hlt (dig_out ‹_›)]; rfl), rfl⟩
        · go_round
          case rel => exact ⟨k + 1, by omega, by go_num, dig_next hd (dig_in ‹_›)⟩
          case measure => simp [intOf]; omega
        · go_ret
          exact ⟨ret_str (by rw [hb.out k hlt (dig_out (Or.inl ‹_›))]; rfl), rfl⟩
      · go_wp2
        go_ret
        exact ⟨ret_str (hg.out (fun j hj => hd j hj (by omega))).symm, rfl⟩
  · go_ret
    exact ⟨ret_str (by rw [turn_short s (by omega)]; rfl), rfl⟩

theorem door_any (s : ByteArray) (w : World) (hs : s.size ≤ maxLen) :
    Calls Try.prog 18 #[.string s] w fun e w' => e = .returned (.string (str (turnL s.data.toList))) ∧ w' = w := by
  have ht := fun w => turn_any s w hs
  go_enter Try.func18, Try.ntmps18
  go_wp2_with (go_at_call 27; refine (ht _).mono ?_; rintro e w' ⟨rfl, rfl⟩)
  go_ret
  exact ⟨rfl, rfl⟩
end Go.Proofs.Qxb6601093a
