/-
  THE WALK of zzTurnModel (19): it returns 'turnL' of the bytes too; the world is as it was.
-/
import Derived.Test.Qxb6601093aTurn
namespace Go.Proofs.Qxb6601093a
open Go.RowKit

/-! ### plain -/
theorem get_list (s : ByteArray) (j : Nat) (h : j < s.size) : s.data.toList[j]'(by rw [size_list]; exact h) = s[j] := rfl
theorem take5 (s : ByteArray) (h : 5 < s.size) : s.data.toList.take 5 = [s[0], s[1], s[2], s[3], s[4]] := by
  apply List.ext_getElem
  · rw [List.length_take, size_list]; simp; omega
  · intro i h1 h2
    rw [List.getElem_take]
    simp at h2
    match i, h2 with
    | 0, _ => rfl
    | 1, _ => rfl
    | 2, _ => rfl
    | 3, _ => rfl
    | 4, _ => rfl
theorem byte_of {c : UInt8} {n : Nat} (hn : n < 256) (h : (c.toNat : Int) = n) : c = UInt8.ofNat n := by
  apply UInt8.toNat_inj.1
  simp
  omega
theorem all_drop (s : ByteArray) (h : (s.data.toList.drop 5).all dig = true) (j : Nat) (hj : j < s.size) (h5 : 5 ≤ j) : dig s[j] = true := by
  rw [List.all_eq_true] at h
  apply h
  rw [List.mem_iff_getElem]
  refine ⟨j - 5, by rw [List.length_drop, size_list]; omega, ?_⟩
  rw [List.getElem_drop]
  simp only [show 5 + (j - 5) = j from by omega]
  exact get_list s j hj
theorem head_drop (s : ByteArray) (h : 5 < s.size) : (s.data.toList.drop 5).head? = some s[5] := by
  rw [List.head?_drop, List.getElem?_eq_getElem (by rw [size_list]; exact h)]
  rfl

/-- The count of trailing digits stopped at k. -/
def Stop (s : ByteArray) (k : Nat) : Prop := ∀ h : k < s.size, dig (s[s.size - 1 - k]) = false

theorem model_no (s : ByteArray) (k : Nat) (hk : k ≤ s.size) (hd : ∀ j (hj : j < s.size), s.size - k ≤ j → dig s[j] = true) (hst : Stop s k)
    (h : ¬ (s.size = 5 + k ∧ k ≠ 0)) : turnL s.data.toList = [] := by
  unfold turnL
  by_cases hc : s.data.toList.take 5 = pre5 ∧ (s.data.toList.drop 5).head? ≠ some 48 ∧ (s.data.toList.drop 5).all dig = true
  · rw [if_pos hc]
    obtain ⟨h1, _, h3⟩ := hc
    by_cases hs : s.size ≤ 5
    · apply List.drop_eq_nil_of_le
      rw [size_list]; exact hs
    · exfalso
      have h5 : 5 < s.size := by omega
      rw [take5 s h5] at h1
      simp [pre5] at h1
      have h4 : dig s[4] = false := by rw [h1.2.2.2.2]; decide
      by_cases hk5 : s.size < 5 + k
      · have := hd 4 (by omega) (by omega)
        rw [h4] at this
        cases this
      · by_cases hk6 : s.size = 5 + k
        · exact h ⟨hk6, by omega⟩
        · have hlt : k < s.size := by omega
          have h6 := hst hlt
          have := all_drop s h3 (s.size - 1 - k) (by omega) (by omega)
          rw [h6] at this
          cases this
  · rw [if_neg hc]

theorem model_bad (s : ByteArray) (h5 : 5 < s.size) (h : ¬ ((s[0].toNat : Int) = 116 ∧ (s[1].toNat : Int) = 117 ∧ (s[2].toNat : Int) = 114 ∧ (s[3].toNat : Int) = 110 ∧ (s[4].toNat : Int) = 45) ∨ (s[5].toNat : Int) = 48) : turnL s.data.toList = [] := by
  unfold turnL
  rw [if_neg]
  rintro ⟨h1, h2, _⟩
  rcases h with h | h
  · apply h
    rw [take5 s h5] at h1
    simp [pre5] at h1
    obtain ⟨a, b, c, d, e⟩ := h1
    rw [a, b, c, d, e]
    decide
  · apply h2
    rw [head_drop s h5, byte_of (n := 48) (by omega) h]
    rfl
theorem model_yes (s : ByteArray) (k : Nat) (hd : ∀ j (hj : j < s.size), s.size - k ≤ j → dig s[j] = true) (hsz : s.size = 5 + k) (h5 : 5 < s.size)
    (a0 : (s[0].toNat : Int) = 116) (a1 : (s[1].toNat : Int) = 117) (a2 : (s[2].toNat : Int) = 114) (a3 : (s[3].toNat : Int) = 110) (a4 : (s[4].toNat : Int) = 45)
    (a5 : ¬ (s[5].toNat : Int) = 48) : str (turnL s.data.toList) = s.extract 5 s.size := by
  rw [ext_end_str]
  congr 1
  unfold turnL
  rw [if_pos]
  refine ⟨?_, ?_, ?_⟩
  · rw [take5 s h5, byte_of (n := 116) (by omega) a0, byte_of (n := 117) (by omega) a1, byte_of (n := 114) (by omega) a2, byte_of (n := 110) (by omega) a3, byte_of (n := 45) (by omega) a4]
    rfl
  · rw [head_drop s h5]
    intro h
    apply a5
    injection h with h
    rw [h]; rfl
  · rw [List.all_eq_true]
    intro x hx
    obtain ⟨j, hj, rfl⟩ := List.mem_iff_getElem.1 hx
    rw [List.length_drop, size_list] at hj
    rw [List.getElem_drop]
    exact hd (5 + j) (by omega) (by omega)

theorem dig_hi {c : UInt8} (h : 48 ≤ (c.toNat : Int)) : dig c = decide ((c.toNat : Int) ≤ 57) := by
  have h' : 48 ≤ c.toNat := by omega
  unfold dig
  simp [h']
  omega
theorem dig_lo {c : UInt8} (h : (c.toNat : Int) < 48) : dig c = false := by
  have h' : ¬ 48 ≤ c.toNat := by omega
  unfold dig
  simp [h']
theorem ret_bool {a b : Bool} (h : a = b) : Ending.returned (.bool a) = .returned (.bool b) := by rw [h]

theorem isDigit_any (c : UInt8) (w : World) :
    Calls Try.prog 28 #[.int .u8 c.toNat] w fun e w' => e = .returned (.bool (dig c)) ∧ w' = w := by
  go_enter Try.func28, Try.ntmps28
  go_wp2
  · go_ret
    exact ⟨ret_bool (dig_hi ‹_›).symm, rfl⟩
  · go_ret
    exact ⟨ret_bool (dig_lo ‹_›).symm, rfl⟩

set_option maxHeartbeats 1000000 in
theorem model_any (s : ByteArray) (w : World) (hs : s.size ≤ 1048576) :
    Calls Try.prog 19 #[.string s] w fun e w' => e = .returned (.string (str (turnL s.data.toList))) ∧ w' = w := by
  go_enter Try.func19, Try.ntmps19
  go_wp2
  go_loop [3] (fun i => ∃ k : Nat, k ≤ s.size ∧ i = .int .i64 k ∧ (∀ j (hj : j < s.size), s.size - k ≤ j → dig s[j] = true)) (fun i => s.size - (intOf i).toNat)
  case atStart => exact ⟨0, Nat.zero_le _, rfl, fun j h h2 => absurd h2 (by omega)⟩
  case round =>
    obtain ⟨k, hk, rfl, hd⟩ := hrel
    have HD : Hid (∀ j (hj : j < s.size), s.size - k ≤ j → dig s[j] = true) := hd
    clear hd
    by_cases hlt : k < s.size
    · have hix : ((s.size : Int) - 1 - k).toNat = s.size - 1 - k := by omega
      by_cases hdg : dig s[s.size - 1 - k] = true
      · go_wp2_with (go_at_call 28; refine (isDigit_any _ _).mono ?_; rintro e w' ⟨rfl, rfl⟩)
        go_round
        case rel => exact ⟨k + 1, by omega, by go_num, fun j hj hjk => by
          by_cases e : j = s.size - 1 - k
          · subst e; exact hdg
          · exact HD.out j hj (by omega)⟩
        case measure => simp [intOf]; omega
      · have hdf : dig s[s.size - 1 - k] = false := by simpa using hdg
        have hst : Hid (Stop s k) := fun _ => hdf
        clear hdg
        by_cases hgo : s.size = 5 + k ∧ k ≠ 0
        · have HG : Hid (s.size = 5 + k) := hgo.1
          have h5 : 5 < s.size := by omega
          have h5' : (5 : Int) < s.size := by omega
          have t0 : ((k : Int) == 0) = false := beq_eq_false_iff_ne.2 (by omega)
          have t1 : ((s.size : Int) != 5 + k) = false := by rw [bne_eq_false_iff_eq]; omega
          clear hgo
          by_cases c4 : (s[4].toNat : Int) = 45
          · by_cases c5 : (s[5].toNat : Int) = 48
            · go_wp2_with (go_at_call 28; refine (isDigit_any _ _).mono ?_; rintro e w' ⟨rfl, rfl⟩)
              all_goals
                go_ret
                exact ⟨ret_str (by rw [model_bad s h5 (by omega)]; rfl), rfl⟩
            · go_wp2_with (go_at_call 28; refine (isDigit_any _ _).mono ?_; rintro e w' ⟨rfl, rfl⟩)
              all_goals go_ret
              all_goals first | exact ⟨ret_str (model_yes s k HD.out HG.out h5 ‹_› ‹_› ‹_› ‹_› c4 c5).symm, rfl⟩ | exact ⟨ret_str (by rw [model_bad s h5 (Or.inl (by omega))]; rfl), rfl⟩
          · go_wp2_with (go_at_call 28; refine (isDigit_any _ _).mono ?_; rintro e w' ⟨rfl, rfl⟩)
            all_goals
              go_ret
              exact ⟨ret_str (by rw [model_bad s h5 (Or.inl (by omega))]; rfl), rfl⟩
        · have hno : Hid (turnL s.data.toList = []) := model_no s k hk HD.out hst.out hgo
          by_cases hk0 : k = 0
          · have t0 : ((k : Int) == 0) = true := beq_iff_eq.2 (by omega)
            clear hk0 hgo
            go_wp2_with (go_at_call 28; refine (isDigit_any _ _).mono ?_; rintro e w' ⟨rfl, rfl⟩)
            all_goals
              go_ret
              exact ⟨ret_str (by rw [hno.out]; rfl), rfl⟩
          · have t0 : ((k : Int) == 0) = false := beq_eq_false_iff_ne.2 (by omega)
            have t1 : ((s.size : Int) != 5 + k) = true := by rw [bne_iff_ne]; omega
            clear hgo
            go_wp2_with (go_at_call 28; refine (isDigit_any _ _).mono ?_; rintro e w' ⟨rfl, rfl⟩)
            all_goals
              go_ret
              exact ⟨ret_str (by rw [hno.out]; rfl), rfl⟩
    · have hst : Hid (Stop s k) := fun h => absurd h hlt
      by_cases hgo : s.size = 5 + k ∧ k ≠ 0
      · have HG : Hid (s.size = 5 + k) := hgo.1
        have h5 : 5 < s.size := by omega
        have h5' : (5 : Int) < s.size := by omega
        have t0 : ((k : Int) == 0) = false := beq_eq_false_iff_ne.2 (by omega)
        have t1 : ((s.size : Int) != 5 + k) = false := by rw [bne_eq_false_iff_eq]; omega
        clear hgo
        by_cases c4 : (s[4].toNat : Int) = 45
        · by_cases c5 : (s[5].toNat : Int) = 48
          · go_wp2
            all_goals
              go_ret
              exact ⟨ret_str (by rw [model_bad s h5 (by omega)]; rfl), rfl⟩
          · go_wp2
            all_goals go_ret
            all_goals first | exact ⟨ret_str (model_yes s k HD.out HG.out h5 ‹_› ‹_› ‹_› ‹_› c4 c5).symm, rfl⟩ | exact ⟨ret_str (by rw [model_bad s h5 (Or.inl (by omega))]; rfl), rfl⟩
        · go_wp2
          all_goals
            go_ret
            exact ⟨ret_str (by rw [model_bad s h5 (Or.inl (by omega))]; rfl), rfl⟩
      · have hno : Hid (turnL s.data.toList = []) := model_no s k hk HD.out hst.out hgo
        by_cases hk0 : k = 0
        · have t0 : ((k : Int) == 0) = true := beq_iff_eq.2 (by omega)
          clear hk0 hgo
          go_wp2
          all_goals
            go_ret
            exact ⟨ret_str (by rw [hno.out]; rfl), rfl⟩
        · have t0 : ((k : Int) == 0) = false := beq_eq_false_iff_ne.2 (by omega)
          have t1 : ((s.size : Int) != 5 + k) = true := by rw [bne_iff_ne]; omega
          clear hgo
          go_wp2
          all_goals
            go_ret
            exact ⟨ret_str (by rw [hno.out]; rfl), rfl⟩
end Go.Proofs.Qxb6601093a
