/-
  Rows.FnTurnNumberReadsBackEveryNumberedNameSaid, proved. The frame is the skeleton tool's for this function; the walk leans on the contracts of zzUtoa and turnNumber.
-/
import Derived.Test.Qxb6601093aRows
import Derived.Test.Qxb6601093aUtoa
import Derived.WalkKit
import Derived.ProofKit
import Derived.OpenShut
import Derived.ShutString
namespace Go.Proofs.Qxb6601093a.fnTurnNumberReadsBackEveryNumberedName
open Go.ChangeShapes Go.WideShapes Go.ChangeAt Go.RowKit
open Go.ChangeMaps (open_string shut_string)
set_option linter.unusedVariables false      -- a walk need not use every 'w<i>' (that an integer argument fits its kind)

theorem own : ownKnob Try.prog.godebug = none := by kernel_rfl

theorem turn_pre (t : ByteArray) (h : Num t) : str (turnL ((⟨#[116, 117, 114, 110, 45]⟩ : ByteArray) ++ t).data.toList) = t := by
  obtain ⟨_, _, h3, h4⟩ := h
  have e : ((⟨#[116, 117, 114, 110, 45]⟩ : ByteArray) ++ t).data.toList = pre5 ++ t.data.toList := by simp [ByteArray.data_append, pre5]
  rw [e]
  have d : (pre5 ++ t.data.toList).drop 5 = t.data.toList := by simp [pre5]
  unfold turnL
  rw [d, if_pos ⟨by simp [pre5], h4, h3⟩, str_of]
theorem turn_pre0 (t : ByteArray) : turnL ((⟨#[116, 117, 114, 110, 45, 48]⟩ : ByteArray) ++ t).data.toList = [] := by
  have e : ((⟨#[116, 117, 114, 110, 45, 48]⟩ : ByteArray) ++ t).data.toList = pre5 ++ 48 :: t.data.toList := by simp [ByteArray.data_append, pre5]
  rw [e]
  have d : (pre5 ++ 48 :: t.data.toList).drop 5 = 48 :: t.data.toList := by simp [pre5]
  unfold turnL
  rw [d, if_neg (by rintro ⟨_, h, _⟩; simp at h)]

theorem door_yes (t : ByteArray) (w : World) (h : Num t) :
    Calls Try.prog 18 #[.string ((⟨#[116, 117, 114, 110, 45]⟩ : ByteArray) ++ t)] w fun e w' => e = .returned (.string t) ∧ w' = w := by
  have hs : ((⟨#[116, 117, 114, 110, 45]⟩ : ByteArray) ++ t).size ≤ maxLen := by
    have := h.2.1
    rw [ByteArray.size_append]
    unfold maxLen
    have e : (⟨#[116, 117, 114, 110, 45]⟩ : ByteArray).size = 5 := rfl
    omega
  refine (door_any _ w hs).mono ?_
  rintro e w' ⟨rfl, rfl⟩
  exact ⟨ret_str (turn_pre t h), rfl⟩
theorem door_zero (t : ByteArray) (w : World) (h : t.size ≤ 20) :
    Calls Try.prog 18 #[.string ((⟨#[116, 117, 114, 110, 45, 48]⟩ : ByteArray) ++ t)] w fun e w' => e = .returned (.string ⟨#[]⟩) ∧ w' = w := by
  have hs : ((⟨#[116, 117, 114, 110, 45, 48]⟩ : ByteArray) ++ t).size ≤ maxLen := by
    rw [ByteArray.size_append]
    unfold maxLen
    have e : (⟨#[116, 117, 114, 110, 45, 48]⟩ : ByteArray).size = 6 := rfl
    omega
  refine (door_any _ w hs).mono ?_
  rintro e w' ⟨rfl, rfl⟩
  exact ⟨ret_str (by rw [turn_pre0 t]; rfl), rfl⟩

theorem door_nil (w : World) :
    Calls Try.prog 18 #[.string ((⟨#[116, 117, 114, 110, 45]⟩ : ByteArray) ++ ⟨#[48]⟩)] w fun e w' => e = .returned (.string ⟨#[]⟩) ∧ w' = w := by
  refine (door_any _ w (by unfold maxLen; decide)).mono ?_
  rintro e w' ⟨rfl, rfl⟩
  exact ⟨rfl, rfl⟩

set_option maxHeartbeats 400000 in
theorem walk (a0 : Int) (w0 : (Lit.int .u64 a0).wf = true) (w : World) :
    Calls Try.prog 6 #[.int .u64 a0] w fun e w' => e = .returned (.bool true) ∧ Grown w w' := by
  have hb : 0 ≤ a0 ∧ a0 < 18446744073709551616 := by have := bounds_u64 w0; omega
  obtain ⟨hb0, hb1⟩ := hb
  clear w0
  by_cases h0 : a0 = 0
  · subst h0
    go_enter Try.func6, Try.ntmps6
    go_wp2_with fail
    refine (utoa_zero w).mono ?_
    rintro e w1 ⟨rfl, hw⟩
    subst hw
    go_wp2_with fail
    refine (door_nil _).mono ?_
    rintro e w2 ⟨rfl, hw⟩
    subst hw
    go_wp2_with fail
    refine (door_zero ⟨#[48]⟩ _ (by decide)).mono ?_
    rintro e w2 ⟨rfl, hw⟩
    subst hw
    go_wp2
    go_ret
    exact ⟨rfl, Grown.refl _⟩
  · have hz : (a0 == 0) = false := beq_eq_false_iff_ne.2 h0
    clear h0
    go_enter Try.func6, Try.ntmps6
    go_wp2_with fail
    refine (utoa_any a0 w (by have := beq_eq_false_iff_ne.1 hz; omega) hb1).mono ?_
    rintro e w1 ⟨t, rfl, hn, hg⟩
    have hs1 := hn.1
    have hs2 := hn.2.1
    go_wp2_with fail
    refine (door_yes t w1 hn).mono ?_
    rintro e w2 ⟨rfl, hw⟩
    subst hw
    go_wp2_with fail
    refine (door_zero t _ hs2).mono ?_
    rintro e w2 ⟨rfl, hw⟩
    subst hw
    go_wp2
    go_ret
    exact ⟨rfl, hg⟩

/-! ### THE ROW's STEP: WRITTEN OUT: LEAVE IT -/
set_option maxRecDepth 100000 in
theorem lifted (os : Os) (started : os.Started) (H : Type) (enc : TypeId × Value → H) :
    ReturnsInHanded {} Try.checked os 6 .any (Rows.fnTurnNumberReadsBackEveryNumberedNameSpec.pre6 enc Try.prog Try.f6 Rows.fnTurnNumberReadsBackEveryNumberedNameRow.domain false) (Rows.fnTurnNumberReadsBackEveryNumberedNameSpec.post enc Try.prog Try.f6 false true false false) := by
  refine returnsInHanded_of_change (C := Try.checked) own started (by kernel_rfl) Try.func6
    (ChangeSpec.witness6 (enc := enc) (C := Try.checked) false ⟨#[], #[.int .u64 0], []⟩ 8 (by kernel_rfl) (by kernel_rfl) (by kernel_rfl) (by kernel_rfl)) ?_
  intro W base args ds gs before hval0 hW hcnd _
  have hval : ∀ (j : Nat) t v, Try.f6.params[j]? = some t → args[j]? = some v → Value.okWide Try.prog W .any base t v := hval0
  have hW' := hW
  obtain ⟨p, q, hA0, hV, rfl, hfz, hnd⟩ := hW
  have hA : DataW.TrodAll enc Try.prog W 0 (fun _ => true) true Try.f6.params.toList args.toList ds p := hA0
  rw [Try.params6] at hA hval
  obtain ⟨v0, vs0, d0, ds0, p0, q0, hargs, rfl, rfl, h0, r0⟩ := trodAll_cons hA
  obtain ⟨rfl, rfl, rfl⟩ := trodAll_nil r0
  obtain rfl : args = #[v0] := by cases args; simp_all
  obtain ⟨rfl, rfl⟩ := trodVars_none hV
  obtain ⟨a0, rfl, rfl, rfl, w0⟩ := open_int Try.underlying32 (hval 0 32 v0 rfl rfl) h0
  clear hA0 hval0
  simp only [List.append_nil] at hW'
  refine (walk a0 w0 W).mono fun e W' ⟨he, hg⟩ => ?_
  subst he
  exact ⟨_, rfl, post_of_same (pa := []) (pv := []) hW' (fun _ _ _ => (trodAll_cons_mk (shut_bool Try.underlying4 _) trodAll_mk0)) (fun sp _ => (trodAll_cons_mk (shut_int Try.underlying32 w0) trodAll_mk0)) (fun _ _ => rfl) rfl
    (hg.frame _) hg.2.1 (ok_one (by kernel_rfl) rfl (okWide_bool_mk Try.underlying4 _))⟩

theorem over : Rows.fnTurnNumberReadsBackEveryNumberedNameRow.holds Try.pinned (OpenSpec.ofChange Rows.fnTurnNumberReadsBackEveryNumberedNameSpec) :=
  OpenClaim.holds_of_wide 6 Try.f6 rfl rfl rfl rfl rfl rfl rfl ⟨rfl, rfl, rfl, rfl, rfl⟩ rfl rfl rfl rfl rfl (by kernel_rfl) Try.func6 (by kernel_rfl)
    (of_decide_eq_true (by kernel_rfl)) (by unfold Func.isWrapper; first | (rw [if_pos (by decide +kernel)]; kernel_rfl) | (rw [if_neg (by decide +kernel)]; exact ⟨rfl, rfl⟩))
    (fun os started H enc _ => lifted os started H enc)

/-- ████ THE STATEMENT ████ -/
theorem proved : Rows.FnTurnNumberReadsBackEveryNumberedNameSaid :=
  over
end Go.Proofs.Qxb6601093a.fnTurnNumberReadsBackEveryNumberedName

namespace Go.Proofs.Qxb6601093a
theorem readsBack_proved : Rows.FnTurnNumberReadsBackEveryNumberedNameSaid := fnTurnNumberReadsBackEveryNumberedName.proved
end Go.Proofs.Qxb6601093a
