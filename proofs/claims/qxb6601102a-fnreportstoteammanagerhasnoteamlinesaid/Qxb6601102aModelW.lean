/-
  THE WALKS, N: zzPlaceModel.
-/
import Derived.Test.Qxb6601102aModel
import Derived.Test.Qxb6601102aPlaceB
import Derived.Deep.CutRange
namespace Go.Proofs.Qxb6601102a
open Go.RowKit

theorem less_cmp : ∀ (x y : List UInt8), Op.bytesLess x y = decide (Lib.compareBytes x y < 0)
  | [], [] => by simp [Op.bytesLess, Lib.compareBytes]
  | [], _ :: _ => by simp [Op.bytesLess, Lib.compareBytes]
  | _ :: _, [] => by simp [Op.bytesLess, Lib.compareBytes]
  | a :: x, b :: y => by
    rw [Op.bytesLess, less_cmp x y, Lib.compareBytes]
    by_cases h : a < b
    · simp [h]
    · by_cases h2 : b < a
      · have : (a == b) = false := by
          rw [beq_eq_false_iff_ne]; rintro rfl; exact h h2
        simp [h, h2, this]
      · have : a = b := by
          rcases UInt8.lt_or_lt_of_ne (a := a) (b := b) |> fun f => (Classical.em (a = b)) with e | e
          · exact e
          · exact absurd (UInt8.lt_or_lt_of_ne e) (by simp [h, h2])
        subst this
        simp [h]
theorem lsB_less (D : Dat) (k l : Nat) : Op.bytesLess (D.ti k).toList (D.ti l).toList = lsB D k l := by
  rw [less_cmp, Lib.toList_data, Lib.toList_data]; rfl

theorem best_lt (D : Dat) (i k : Nat) {m t : Nat} (h : best D i k = some (m, t)) : m < k ∧ t ≤ 2 := by
  have hf : ∀ p x, fp D i p k = some x → x < k := by
    intro p x hx
    unfold fp at hx
    have h0 : 0 < ((tl D k i).filter p).length := by
      rcases Nat.eq_zero_or_pos ((tl D k i).filter p).length with h0 | h0
      · rw [List.length_eq_zero_iff.1 h0] at hx; cases hx
      · exact h0
    rw [mnL_fold D _ h0] at hx
    cases hx
    obtain ⟨j, hj, e⟩ := mn_mem D (zl ((tl D k i).filter p)) _ h0
    unfold mnL
    rw [e]
    exact tl_lt D k i _ (List.mem_filter.1 (zl_mem hj)).1
  unfold best at h
  split at h
  · next e => cases h; exact ⟨hf _ _ e, by omega⟩
  · split at h
    · next e => cases h; exact ⟨hf _ _ e, by omega⟩
    · split at h
      · next e => cases h; exact ⟨hf _ _ e, by omega⟩
      · cases h

theorem tier_le (D : Dat) (i k : Nat) : tier D i k ≤ 2 := by unfold tier; split <;> (try split) <;> omega

theorem drewN_ex (w : World) (a b : Nat) : ∃ q, (w.drewN a).drewN b = w.drewN q := ⟨a + b, by rw [World.drewN_drewN]⟩

set_option maxRecDepth 100000 in
set_option maxHeartbeats 2000000 in
theorem model_any {w : World} {D : Dat} {x1 x2 x3 x4 x5 x6 x7 x8 : Sl} {R : Nat → Sl} (h : Args w D x1 x2 x3 x4 x5 x6 x7 x8 R) (i : Nat) (hi : i < D.n) :
    Calls Try.prog 19 #[.slice x1.s x1.n x1.c, .slice x3.s x3.n x3.c, .slice x4.s x4.n x4.c, .slice x6.s x6.n x6.c, .slice x7.s x7.n x7.c, .slice x8.s x8.n x8.c, .int .i64 i] w fun e w' => e = .returned (.int .i64 (dept D i)) ∧ ∃ q, w' = w.drewN q := by
  have HD := hid (dept_best D i)
  have hn7 := h.hK
  have h1n := h.hn
  have E7 := hid h.e7
  have H := hid h
  clear h
  go_enter Try.func19, Try.ntmps19
  go_wp2
  go_loopw [15, 16, 17] (fun b t c wr => ∃ k q : Nat, k ≤ x7.n ∧ c = .int .i64 k ∧ b = .int .i64 (bestI (best D i k)) ∧ t = .int .i64 (tierI (best D i k)) ∧ wr = w.drewN q) (fun _ _ c _ => x7.n - (intOf c).toNat)
  case atStart => exact ⟨0, 0, Nat.zero_le _, rfl, rfl, rfl, rfl⟩
  case round =>
    obtain ⟨k, q, hk, rfl, rfl, rfl, rfl⟩ := hrel
    by_cases hlt : k < x7.n
    · have hkK : k < D.K := by rw [← E7.out]; exact hlt
      have h8n : k < x8.n := by have := H.out.e8; omega
      have hix := idx25 H.out.h8.has k h8n
      have hc := H.out.h8.has.cell h8n
      have HN := hid (names_any (R k) (D.Z k) i (w.drewN q) ((H.out.h8.rows k h8n).drewN q))
      have EN : hasB (R k).n (D.Z k) (i : Int) = hasB (D.nm k) (D.Z k) (i : Int) := by rw [(H.out.hrn k hlt).1]
      rw [EN] at HN
      clear EN
      have hRn : (R k).n ≤ 1048576 := (H.out.hrn k hlt).2
      cases hb : hasB (D.nm k) (D.Z k) (i : Int) with
      | false =>
        have HS := hid (best_skip D i k hb)
        rw [hb] at HN
        generalize best D i k = o at HS ⊢
        clear hb
        go_wp2_with fail
        refine HN.out.mono ?_
        rintro e w' ⟨rfl, hw⟩
        subst hw
        go_wp2
        go_roundw
        case rel => exact ⟨k + 1, q, by omega, by go_num, by rw [HS.out], by rw [HS.out], rfl⟩
        case measure => simp [intOf]; omega
      | true =>
        have HS := hid (best_step D i k hb)
        have HL := hid fun m t => best_lt D i k (m := m) (t := t)
        rw [hb] at HN
        generalize best D i k = o at HS HL ⊢
        clear hb
        have hix7 := idx24 H.out.h7.has k hlt
        have hc7 := H.out.h7.has.cell hlt
        have HM := hid (H.out.M k hkK)
        go_upto_if 39 with (go_at_call 22; refine HN.out.mono ?_; rintro e w' ⟨rfl, hw⟩; subst hw)
        go_cut [18, 19] from 20 to 83 (fun m t wx => m = .int .i64 (D.M k) ∧ t = .int .i64 (tier D i k : Nat) ∧ ∃ q, wx = w.drewN q)
        case first =>
          by_cases h0 : t0 D i k = true
          · have h0' : (D.M k == (i : Int)) = true := h0
            have HT : Hid (tier D i k = 0) := by unfold Hid tier; rw [if_pos h0]
            clear h0
            go_wp2
            go_meet
            exact ⟨rfl, by rw [HT.out]; rfl, by first | exact ⟨_, rfl⟩ | exact drewN_ex _ _ _⟩
          · have h0' : (D.M k == (i : Int)) = false := by simpa [t0] using h0
            have i3 := idx23 H.out.h3.has i (by have := H.out.e3; have := H.out.e1; omega)
            have c3 := H.out.h3.has.cell (i := i) (by have := H.out.e3; have := H.out.e1; omega)
            have ETH : Hid (tier D i k = if under D i k then 1 else 2) := by unfold Hid tier; rw [if_neg h0]
            clear h0
            cases hhr : D.hr i with
            | false =>
              have HT : Hid (tier D i k = 2) := by unfold Hid; rw [ETH.out, if_neg (by unfold under; simp [hhr])]
              rw [hhr] at c3
              clear hhr
              go_wp2
              go_quiet (fail)
              go_wp2
              go_meet
              exact ⟨rfl, by rw [HT.out]; rfl, by first | exact ⟨_, rfl⟩ | exact drewN_ex _ _ _⟩
            | true =>
              rw [hhr] at c3
              by_cases hm : D.M k < 0
              · have HT : Hid (tier D i k = 2) := by unfold Hid; rw [ETH.out, if_neg (by unfold under; rw [decide_eq_false (by omega)]; simp)]
                have hmd : decide (0 ≤ D.M k) = false := by rw [decide_eq_false]; omega
                have hmd2 : decide (D.M k < 0) = true := by simpa using hm
                clear hhr
                go_wp2
                go_quiet (fail)
                go_wp2
                go_meet
                exact ⟨rfl, by rw [HT.out]; rfl, by first | exact ⟨_, rfl⟩ | exact drewN_ex _ _ _⟩
              · obtain ⟨m, hmm⟩ := Int.eq_ofNat_of_zero_le (show 0 ≤ D.M k by omega)
                have hmn : m < x1.n := by have := HM.out; have := H.out.e1; omega
                have i1 := idx22 H.out.h1.has m hmn
                have c1 := H.out.h1.has.cell hmn
                have i4 := idx22 H.out.h4.has i (by have := H.out.e4; have := H.out.e1; omega)
                have c4 := H.out.h4.has.cell (i := i) (by have := H.out.e4; have := H.out.e1; omega)
                have HU : Hid (under D i k = ((D.slug m).toList == (D.rep i).toList)) := by
                  unfold Hid under
                  rw [hhr, hmm, decide_eq_true (by omega)]
                  simp
                have HMM := hid hmm
                rw [hmm] at h0' ⊢
                have hmd : decide ((m : Int) < 0) = false := by simp
                have hmd2 : decide (0 ≤ (m : Int)) = true := by simp
                clear hhr hm hmm
                cases hc : ((D.slug m).toList == (D.rep i).toList) with
                | false =>
                  have HT : Hid (tier D i k = 2) := by unfold Hid; rw [ETH.out, HU.out, hc]; rfl
                  go_wp2
                  go_quiet (fail)
                  go_wp2
                  go_meet
                  exact ⟨by rw [HMM.out], by rw [HT.out]; rfl, by first | exact ⟨_, rfl⟩ | exact drewN_ex _ _ _⟩
                | true =>
                  have HT : Hid (tier D i k = 1) := by unfold Hid; rw [ETH.out, HU.out, hc]; rfl
                  go_wp2
                  go_quiet (fail)
                  go_wp2
                  go_meet
                  exact ⟨by rw [HMM.out], by rw [HT.out]; rfl, by first | exact ⟨_, rfl⟩ | exact drewN_ex _ _ _⟩
        case rest =>
          obtain ⟨rfl, rfl, q2, rfl⟩ := hcut
          have htl := tier_le D i k
          unfold stepM at HS
          generalize tier D i k = tk at HS htl ⊢
          clear hix hc HN hRn hix7 hc7 HM
          cases o with
          | none =>
            dsimp only at HS
            simp only [bestI, tierI]
            go_wp2
            go_quiet (fail)
            go_wp2
            go_roundw
            case rel => exact ⟨k + 1, q2 + nq, by omega, by go_num, by rw [HS.out]; rfl, by rw [HS.out]; rfl, rfl⟩
            case measure => simp [intOf]; omega
          | some p =>
            obtain ⟨m, t⟩ := p
            obtain ⟨hmk, ht2⟩ := HL.out m t rfl
            dsimp only at HS
            simp only [bestI, tierI]
            have hneg : decide ((m : Int) < 0) = false := by simp
            have i6 := idx22 H.out.h6.has k (by have := H.out.e6; omega)
            have c6 := H.out.h6.has.cell (i := k) (by have := H.out.e6; omega)
            have i6m := idx22 H.out.h6.has m (by have := H.out.e6; omega)
            have c6m := H.out.h6.has.cell (i := m) (by have := H.out.e6; omega)
            have HLS := hid (lsB_less D k m)
            rcases Nat.lt_trichotomy tk t with hlt3 | hlt3 | hlt3
            · rw [if_pos (Or.inl hlt3)] at HS
              have hd1 : decide ((tk : Int) < (t : Int)) = true := by rw [decide_eq_true]; omega
              go_wp2
              go_quiet (fail)
              go_wp2
              go_roundw
              case rel => exact ⟨k + 1, q2 + nq, by omega, by go_num, by rw [HS.out]; rfl, by rw [HS.out]; rfl, rfl⟩
              case measure => simp [intOf]; omega
            · subst hlt3
              have hd1 : decide ((tk : Int) < (tk : Int)) = false := by simp
              have hd2 : ((tk : Int) == (tk : Int)) = true := by simp
              cases hls : lsB D k m with
              | true =>
                rw [if_pos (Or.inr ⟨rfl, hls⟩)] at HS
                have hls2 : Op.bytesLess (D.ti k).toList (D.ti m).toList = true := by rw [HLS.out, hls]
                clear hls
                go_wp2
                go_quiet (fail)
                go_wp2
                go_roundw
                case rel => exact ⟨k + 1, q2 + nq, by omega, by go_num, by rw [HS.out]; rfl, by rw [HS.out]; rfl, rfl⟩
                case measure => simp [intOf]; omega
              | false =>
                rw [if_neg (by simp [hls])] at HS
                have hls2 : Op.bytesLess (D.ti k).toList (D.ti m).toList = false := by rw [HLS.out, hls]
                clear hls
                go_wp2
                go_quiet (fail)
                go_wp2
                go_roundw
                case rel => exact ⟨k + 1, q2 + nq, by omega, by go_num, by rw [HS.out]; rfl, by rw [HS.out]; rfl, rfl⟩
                case measure => simp [intOf]; omega
            · rw [if_neg (by omega)] at HS
              have h3 : (tk = 1 ∧ t = 0) ∨ (tk = 2 ∧ t = 0) ∨ (tk = 2 ∧ t = 1) := by omega
              clear hlt3 htl ht2 i6 c6 i6m c6m HLS HL
              rcases h3 with ⟨rfl, rfl⟩ | ⟨rfl, rfl⟩ | ⟨rfl, rfl⟩
              all_goals
                go_wp2
                go_quiet (fail)
                go_wp2
                go_roundw
                (case rel => exact ⟨k + 1, q2 + nq, by omega, by go_num, by rw [HS.out]; rfl, by rw [HS.out]; rfl, rfl⟩)
                (case measure => simp [intOf]; omega)
    · have hke : k = D.K := by rw [← E7.out]; omega
      have HE : Hid (bestI (best D i k) = dept D i) := by unfold Hid; rw [HD.out, hke]
      generalize best D i k = o at HE ⊢
      clear hke
      go_wp2
      go_ret
      exact ⟨congrArg (fun v => Ending.returned (.int .i64 v)) HE.out, _, rfl⟩
end Go.Proofs.Qxb6601102a
