/-
  THE WALKS, R: FnPlaceNotesEveryMembershipButTheSeat.
-/
import Derived.Test.Qxb6601102aLaw3W
import Derived.Test.Qxb6601102aNoRep
import Derived.Test.Qxb6601102aNotesAt
namespace Go.Proofs.Qxb6601102a
open Go.RowKit

set_option maxRecDepth 100000 in
set_option maxHeartbeats 4000000 in
theorem law4_any {w : World} {D : Dat} {x1 x3 x4 x5 x6 x7 x8 : Sl} {R : Nat → Sl} (h : Raw w D x1 x3 x4 x5 x6 x7 x8 R) :
    Calls Try.prog 4 #[.slice x1.s x1.n x1.c, .slice x3.s x3.n x3.c, .slice x4.s x4.n x4.c, .slice x5.s x5.n x5.c, .slice x6.s x6.n x6.c, .slice x7.s x7.n x7.c, .slice x8.s x8.n x8.c] w (LawP w) := by
  have H := hid h
  have l1 := h.h1.has.len
  have l3 := h.h3.has.len
  have l4 := h.h4.has.len
  have l5 := h.h5.has.len
  have l6 := h.h6.has.len
  have l7 := h.h7.has.len
  have l8 := h.h8.has.len
  clear h
  go_enter Try.func4, Try.ntmps4
  go_wp2_with fail
  refine (bytes20_any x1 _ x3 x4 _ x5 _ x6 _ x7 x8 R _ w H.out.h1 l3 H.out.h4 H.out.h5 H.out.h6 l7 H.out.h8).mono ?_
  rintro e w1 ⟨b, rfl, hw⟩
  subst hw
  cases b with
  | false =>
    go_wp2
    go_ret
    exact ⟨rfl, Below.refl _ _⟩
  | true =>
    go_wp2_with fail
    refine (strs_any x1 _ _ H.out.h1).mono ?_
    rintro e w1 ⟨m1, rfl, hw, hm1⟩
    subst hw
    go_wp2_with fail
    refine (bools_any x3 _).mono ?_
    rintro e w1 ⟨m3, rfl, hw, hm3⟩
    subst hw
    go_wp2_with fail
    refine (strs_any x4 _ _ H.out.h4).mono ?_
    rintro e w1 ⟨m4, rfl, hw, hm4⟩
    subst hw
    go_wp2_with fail
    refine (strs_any x5 _ _ H.out.h5).mono ?_
    rintro e w1 ⟨m5, rfl, hw, hm5⟩
    subst hw
    go_wp2_with fail
    refine (strs_any x6 _ _ H.out.h6).mono ?_
    rintro e w1 ⟨m6, rfl, hw, hm6⟩
    subst hw
    go_wp2_with fail
    refine (ints_any x7 _).mono ?_
    rintro e w1 ⟨m7, rfl, hw, hm7⟩
    subst hw
    go_wp2_with fail
    refine (intss_rows x8 R _ _ H.out.h8).mono ?_
    rintro e w1 ⟨m8, rfl, hw, hm8, hrows⟩
    subst hw
    by_cases hs : (m1 : Int) + m3 + m4 + m5 + m6 + m7 + m8 > 1048576
    · clear hrows
      go_wp2
      go_ret
      exact ⟨rfl, Below.refl _ _⟩
    · have HRW := hid (hrows (by omega))
      clear hrows
      by_cases c1 : 4096 < x1.n
      · go_wp2
        go_ret
        exact ⟨rfl, Below.refl _ _⟩
      · by_cases c2 : 4096 < x7.n
        · go_wp2
          go_ret
          exact ⟨rfl, Below.refl _ _⟩
        · cases d3 : ((x3.n : Int) != (x1.n : Int)) with
          | true =>
            go_wp2
            go_ret
            exact ⟨rfl, Below.refl _ _⟩
          | false =>
            cases d4 : ((x4.n : Int) != (x1.n : Int)) with
            | true =>
              go_wp2
              go_ret
              exact ⟨rfl, Below.refl _ _⟩
            | false =>
              cases d5 : ((x5.n : Int) != (x7.n : Int)) with
              | true =>
                go_wp2
                go_ret
                exact ⟨rfl, Below.refl _ _⟩
              | false =>
                cases d6 : ((x6.n : Int) != (x7.n : Int)) with
                | true =>
                  go_wp2
                  go_ret
                  exact ⟨rfl, Below.refl _ _⟩
                | false =>
                  cases d8 : ((x8.n : Int) != (x7.n : Int)) with
                  | true =>
                    go_wp2
                    go_ret
                    exact ⟨rfl, Below.refl _ _⟩
                  | false =>
                    have q3 := hid (ne_false d3)
                    have q4 := hid (ne_false d4)
                    have q5 := hid (ne_false d5)
                    have q6 := hid (ne_false d6)
                    have q8 := hid (ne_false d8)
                    go_wp2_with fail
                    refine (fit_any x1.n x7 _ x8 R _ _ H.out.h7 H.out.h8 q8.out).mono ?_
                    rintro e w1 ⟨b, rfl, hw, hfit⟩
                    subst hw
                    cases b with
                    | false =>
                      go_wp2
                      go_ret
                      exact ⟨rfl, Below.refl _ _⟩
                    | true =>
                      have HF := hid (hfit rfl)
                      clear hfit d3 d4 d5 d6 d8
                      go_wp2_with fail
                      refine (norep_any x1.n x8 R _ _ H.out.h8 (by omega) (by have := q8.out; omega) (fun k hk j hj => HF.out.nm k (by have := q8.out; omega) j hj)).mono ?_
                      rintro e wN ⟨b, rfl, hbN, honce⟩
                      have HB0 := hid hbN
                      have HON := hid honce
                      clear hbN honce
                      cases b with
                      | false =>
                        go_wp2
                        go_ret
                        exact ⟨rfl, HB0.out⟩
                      | true =>
                        have HONE := hid (HON.out rfl)
                        clear HON
                        go_wp2_with fail
                        refine (cloneStrs_any x1 _ _ (H.out.h1.below HB0.out).has (by have := q3.out; have := q4.out; have := q5.out; have := q6.out; have := q8.out; omega)).mono ?_
                        rintro e W1 ⟨y1, rfl, n1, k1, v1, b1, z1⟩
                        have HB1 := hid (below_then HB0.out b1)
                        have HY1 := hid v1
                        have N1 := hid n1
                        clear v1 b1 n1 k1 z1
                        go_wp2_with fail
                        refine (cloneBools_any x3 _ _ (H.out.h3.below HB1.out).has (by have := q3.out; have := q4.out; have := q5.out; have := q6.out; have := q8.out; omega)).mono ?_
                        rintro e W3 ⟨y3, rfl, n3, k3, v3, b3, z3⟩
                        have HB3 := hid (below_then HB1.out b3)
                        have HY3 := hid v3
                        have N3 := hid n3
                        replace HY1 := hid (HY1.out.below b3)
                        clear v3 b3 n3 k3 z3
                        go_wp2_with fail
                        refine (cloneStrs_any x4 _ _ (H.out.h4.below HB3.out).has (by have := q3.out; have := q4.out; have := q5.out; have := q6.out; have := q8.out; omega)).mono ?_
                        rintro e W4 ⟨y4, rfl, n4, k4, v4, b4, z4⟩
                        have HB4 := hid (below_then HB3.out b4)
                        have HY4 := hid v4
                        have N4 := hid n4
                        replace HY1 := hid (HY1.out.below b4)
                        replace HY3 := hid (HY3.out.below b4)
                        clear v4 b4 n4 k4 z4
                        go_wp2_with fail
                        refine (cloneStrs_any x5 _ _ (H.out.h5.below HB4.out).has (by have := q3.out; have := q4.out; have := q5.out; have := q6.out; have := q8.out; omega)).mono ?_
                        rintro e W5 ⟨y5, rfl, n5, k5, v5, b5, z5⟩
                        have HB5 := hid (below_then HB4.out b5)
                        have HY5 := hid v5
                        have N5 := hid n5
                        replace HY1 := hid (HY1.out.below b5)
                        replace HY3 := hid (HY3.out.below b5)
                        replace HY4 := hid (HY4.out.below b5)
                        clear v5 b5 n5 k5 z5
                        go_wp2_with fail
                        refine (cloneStrs_any x6 _ _ (H.out.h6.below HB5.out).has (by have := q3.out; have := q4.out; have := q5.out; have := q6.out; have := q8.out; omega)).mono ?_
                        rintro e W6 ⟨y6, rfl, n6, k6, v6, b6, z6⟩
                        have HB6 := hid (below_then HB5.out b6)
                        have HY6 := hid v6
                        have N6 := hid n6
                        replace HY1 := hid (HY1.out.below b6)
                        replace HY3 := hid (HY3.out.below b6)
                        replace HY4 := hid (HY4.out.below b6)
                        replace HY5 := hid (HY5.out.below b6)
                        clear v6 b6 n6 k6 z6
                        go_wp2_with fail
                        refine (cloneInts_any x7 _ _ (H.out.h7.below HB6.out).has (by have := q3.out; have := q4.out; have := q5.out; have := q6.out; have := q8.out; omega)).mono ?_
                        rintro e W7 ⟨y7, rfl, n7, k7, v7, b7, z7⟩
                        have HB7 := hid (below_then HB6.out b7)
                        have HY7 := hid v7
                        have N7 := hid n7
                        replace HY1 := hid (HY1.out.below b7)
                        replace HY3 := hid (HY3.out.below b7)
                        replace HY4 := hid (HY4.out.below b7)
                        replace HY5 := hid (HY5.out.below b7)
                        replace HY6 := hid (HY6.out.below b7)
                        clear v7 b7 n7 k7 z7
                        go_wp2_with fail
                        refine (cloneIntss_any x8 R _ _ (H.out.h8.below HB7.out) (by have := q8.out; omega) HRW.out).mono ?_
                        rintro e W8 ⟨y8, Y, rfl, n8, v8, r8, b8⟩
                        have HB8 := hid (below_then HB7.out b8)
                        replace HY1 := hid (HY1.out.below b8)
                        replace HY3 := hid (HY3.out.below b8)
                        replace HY4 := hid (HY4.out.below b8)
                        replace HY5 := hid (HY5.out.below b8)
                        replace HY6 := hid (HY6.out.below b8)
                        replace HY7 := hid (HY7.out.below b8)
                        have HA : Hid (Args W8 D y1 ⟨none, 0, 0, 0, 0⟩ y3 y4 y5 y6 y7 y8 Y) := by
                          have eK := H.out.K
                          have eN := H.out.n
                          have n1 := N1.out
                          have n3 := N3.out
                          have n4 := N4.out
                          have n5 := N5.out
                          have n6 := N6.out
                          have n7 := N7.out
                          have p3 := q3.out
                          have p4 := q4.out
                          have p5 := q5.out
                          have p6 := q6.out
                          have p8 := q8.out
                          exact ⟨⟨HY1.out, fun i hi => H.out.h1.size i (by omega)⟩, by omega, Or.inl ⟨rfl, H.out.given⟩, ⟨HY3.out⟩, by omega, ⟨HY4.out, fun i hi => H.out.h4.size i (by omega)⟩, by omega, by omega, ⟨HY5.out, fun i hi => H.out.h5.size i (by omega)⟩, by omega, ⟨HY6.out, fun i hi => H.out.h6.size i (by omega)⟩, by omega,
                            ⟨HY7.out, fun i hi => H.out.h7.bd i (by omega)⟩, by omega, v8, by omega, by omega, fun k hk => ⟨by rw [r8 k (by omega), H.out.nm], by rw [r8 k (by omega)]; exact HRW.out k (by omega)⟩, fun k hk => by rw [eN]; exact HF.out.mgr k (by omega), fun k hk j hj => by rw [eN]; exact HF.out.nm k (by omega) j (by rw [H.out.nm] at hj; exact hj)⟩
                        clear n8 v8 r8 b8
                        go_wp2_with fail
                        refine (placeB_any (x2 := ⟨none, 0, 0, 0, 0⟩) HA.out).mono ?_
                        rintro e W9 ⟨dB, s, c, B, he, hdr, hown, hb⟩
                        have HB9 := hid (below_then HB8.out hb)
                        have HA9 := hid (HA.out.below hb)
                        rw [H.out.n] at he hdr
                        subst he
                        have HDR := hid hdr
                        have EN := hid H.out.n
                        have EK := hid H.out.K
                        have HSEAT : Hid ((dl D D.K).length + sumR (seat D) x1.n = sumR D.nm x7.n) := by
                          unfold Hid
                          have e1 : sumR D.nm x7.n = sumR D.nm D.K := by rw [EK.out]
                          rw [← EN.out, e1]
                          exact seats D HA9.out.Z (fun k hk a b ha hb e => HONE.out k (by have := q8.out; have := EK.out; omega) a b (by rw [← H.out.nm]; exact ha) (by rw [← H.out.nm]; exact hb) e)
                        have HNM : Hid (∀ k, k < x7.n → D.nm k ≤ 1048576) := fun k hk => by rw [H.out.nm]; exact HRW.out k (by have := q8.out; omega)
                        have HLE : Hid ((dl D D.K).length ≤ 4294967296) := by
                          have h1 := sumR_le (f := D.nm) (n := x7.n) (c := 1048576) HNM.out
                          have h2 := HSEAT.out
                          have h3 : x7.n * 1048576 ≤ 4096 * 1048576 := Nat.mul_le_mul_right _ (by omega)
                          unfold Hid
                          omega
                        have HOWN := hid hown
                        have HMEM : Hid (∀ p ∈ dl D D.K, p.1 < x7.n ∧ p.2 < D.nm p.1) := fun p hp => by rw [← EK.out]; exact mem_dl hp
                        have Q1 : Hid (y1.n = x1.n) := N1.out
                        have Q5 : Hid (y5.n = x7.n) := by unfold Hid; rw [N5.out, q5.out]
                        have Q7 : Hid (y7.n = x7.n) := N7.out
                        have Q8 : Hid (y8.n = x7.n) := by
                          unfold Hid
                          have h1 := HA9.out.e8
                          have h2 := Q7.out
                          omega
                        have h8l : y8.n ≤ 4096 := by rw [Q8.out]; omega
                        clear hdr hown hb
                        generalize hL : dl D D.K = L at HSEAT HLE HOWN HMEM ⊢
                        clear hL
                        have hLl : L.length ≤ 4294967296 := HLE.out
                        go_wp2
                        go_loop [18, 19] (fun m k => ∃ k' : Nat, k' ≤ y8.n ∧ k = .int .i64 k' ∧ m = .int .i64 (sumR D.nm k' : Nat)) (fun _ k => y8.n - (intOf k).toNat)
                        case atStart => exact ⟨0, Nat.zero_le _, rfl, rfl⟩
                        case round =>
                          obtain ⟨k, hk, rfl, rfl⟩ := hrel
                          by_cases hkt : k < y8.n
                          · have hix := idx25 HA9.out.h8.has k hkt
                            have hc := HA9.out.h8.has.cell hkt
                            have hnk : (Y k).n ≤ 1048576 := (HA9.out.hrn k (by have := HA9.out.e8; omega)).2
                            have HSU : Hid (((sumR D.nm k : Nat) : Int) + ((Y k).n : Int) = (sumR D.nm (k + 1) : Nat)) := by
                              have := (HA9.out.hrn k (by have := HA9.out.e8; omega)).1
                              unfold Hid
                              show _ = ((sumR D.nm k + D.nm k : Nat) : Int)
                              omega
                            have hsm : sumR D.nm k ≤ 4294967296 := by
                              have h1 := sumR_le (f := D.nm) (n := k) (c := 1048576) fun i hi => HNM.out i (by have := Q8.out; omega)
                              have h3 : k * 1048576 ≤ 4096 * 1048576 := Nat.mul_le_mul_right _ (by omega)
                              omega
                            generalize sumR D.nm k = sm at HSU hsm ⊢
                            go_wp2
                            go_round
                            case rel => exact ⟨k + 1, by omega, by go_num, by rw [HSU.out]⟩
                            case measure => simp [intOf]; omega
                          · have hke : k = x7.n := by rw [← Q8.out]; omega
                            subst hke
                            have hsb : sumR D.nm x7.n ≤ 4294967296 := by
                              have h1 := sumR_le (f := D.nm) (n := x7.n) (c := 1048576) HNM.out
                              have h3 : x7.n * 1048576 ≤ 4096 * 1048576 := Nat.mul_le_mul_right _ (by omega)
                              omega
                            generalize sumR D.nm x7.n = Mb at HSEAT hsb ⊢
                            go_wp2
                            go_loop [20, 21] (fun m i => ∃ i' : Nat, i' ≤ x1.n ∧ i = .int .i64 i' ∧ m = .int .i64 (sumR (seat D) i' : Nat)) (fun _ i => x1.n - (intOf i).toNat)
                            case atStart => exact ⟨0, Nat.zero_le _, rfl, rfl⟩
                            case round =>
                              obtain ⟨i, hi, rfl, rfl⟩ := hrel
                              by_cases hit : i < x1.n
                              · have hdc := HDR.out.cell hit
                                have hse : sumR (seat D) i ≤ 4096 := by
                                  have h1 := sumR_le (f := seat D) (n := i) (c := 1) fun x _ => by unfold seat; split <;> omega
                                  omega
                                by_cases hd : dept D i = -1
                                · have HSE : Hid (sumR (seat D) (i + 1) = sumR (seat D) i) := by
                                    show sumR (seat D) i + seat D i = _
                                    unfold seat; rw [if_pos hd]; rfl
                                  have HNO := hid fun k hk => dept_none hd k hk
                                  rw [hd] at hdc
                                  generalize sumR (seat D) i = se at HSE hse ⊢
                                  clear hd
                                  go_wp2
                                  go_loop [23] (fun k => ∃ k' : Nat, k' ≤ y8.n ∧ k = .int .i64 k') (fun k => y8.n - (intOf k).toNat)
                                  case atStart => exact ⟨0, Nat.zero_le _, rfl⟩
                                  case round =>
                                    obtain ⟨k, hk, rfl⟩ := hrel
                                    by_cases hkt : k < y8.n
                                    · have hix := idx25 HA9.out.h8.has k hkt
                                      have hc := HA9.out.h8.has.cell hkt
                                      have HN := hid (names_any (Y k) (D.Z k) i W9 (HA9.out.h8.rows k hkt))
                                      have EH : hasB (Y k).n (D.Z k) (i : Int) = false := by
                                        rw [(HA9.out.hrn k (by have := HA9.out.e8; omega)).1]
                                        exact HNO.out k (by have := Q8.out; have := EK.out; omega)
                                      rw [EH] at HN
                                      clear EH
                                      go_wp2_with fail
                                      refine HN.out.mono ?_
                                      rintro e w' ⟨rfl, hw⟩
                                      subst hw
                                      go_wp2
                                      go_round
                                      case rel => exact ⟨k + 1, by omega, by go_num⟩
                                      case measure => simp [intOf]; omega
                                    · go_wp2
                                      go_round
                                      case rel => exact ⟨i + 1, by omega, by go_num, by rw [HSE.out]⟩
                                      case measure => simp [intOf]; omega
                                · obtain ⟨d, hdd, hdK, hdB⟩ := dept_some hd
                                  have HSE : Hid (((sumR (seat D) i : Nat) : Int) + 1 = (sumR (seat D) (i + 1) : Nat)) := by
                                    unfold Hid
                                    show _ = ((sumR (seat D) i + seat D i : Nat) : Int)
                                    unfold seat; rw [if_neg hd]; omega
                                  have hd8 : d < y8.n := by have := Q8.out; have := EK.out; omega
                                  have hd7 : d < y7.n := by have := Q7.out; have := EK.out; omega
                                  have hix := idx25 HA9.out.h8.has d hd8
                                  have hc := HA9.out.h8.has.cell hd8
                                  have HN := hid (names_any (Y d) (D.Z d) i W9 (HA9.out.h8.rows d hd8))
                                  have EH : hasB (Y d).n (D.Z d) (i : Int) = true := by
                                    rw [(HA9.out.hrn d hd7).1]
                                    exact hdB
                                  rw [EH] at HN
                                  rw [hdd] at hdc
                                  have b1 : ((d : Int) == -1) = false := by rw [beq_eq_false_iff_ne]; omega
                                  have b2 : decide ((d : Int) < 0) = false := by simp
                                  have b3 : decide ((y7.n : Int) ≤ (d : Int)) = false := by rw [decide_eq_false]; omega
                                  generalize sumR (seat D) i = se at HSE hse ⊢
                                  clear EH hdd hdB hd
                                  go_wp2_with fail
                                  refine HN.out.mono ?_
                                  rintro e w' ⟨rfl, hw⟩
                                  subst hw
                                  go_wp2
                                  go_round
                                  case rel => exact ⟨i + 1, by omega, by go_num, by rw [HSE.out]⟩
                                  case measure => simp [intOf]; omega
                              · have hie : i = x1.n := by omega
                                subst hie
                                have hse : sumR (seat D) x1.n ≤ 4096 := by
                                  have h1 := sumR_le (f := seat D) (n := x1.n) (c := 1) fun x _ => by unfold seat; split <;> omega
                                  omega
                                generalize sumR (seat D) x1.n = se at HSEAT hse ⊢
                                have hne : ((L.length : Int) != (Mb : Int) - (se : Int)) = false := by
                                  have := HSEAT.out
                                  simp [bne]
                                  omega
                                go_wp2
                                go_loop [24] (fun j => ∃ j' : Nat, j' ≤ L.length ∧ j = .int .i64 j') (fun j => L.length - (intOf j).toNat)
                                case atStart => exact ⟨0, Nat.zero_le _, rfl⟩
                                case round =>
                                  obtain ⟨j, hj, rfl⟩ := hrel
                                  by_cases hjt : j < L.length
                                  · obtain ⟨g, hix, c0, c1, c2⟩ := notes_at HOWN.out j hjt
                                    obtain ⟨m1, m2⟩ := HMEM.out L[j] (List.getElem_mem hjt)
                                    have hzz := HA9.out.Z L[j].1 (by have := EK.out; omega) L[j].2 m2
                                    have I1 : inB y1.n D.slug (D.slug (D.Z L[j].1 L[j].2).toNat) = true := inB_true (i := (D.Z L[j].1 L[j].2).toNat) (by have := Q1.out; have := EN.out; omega) (by simp)
                                    have I5 : inB y5.n D.tf (D.tf L[j].1) = true := inB_true (i := L[j].1) (by have := Q5.out; omega) (by simp)
                                    have HN1 := hid (in_any y1 D.slug (D.slug (D.Z L[j].1 L[j].2).toNat) W9 HA9.out.h1)
                                    have HN5 := hid (in_any y5 D.tf (D.tf L[j].1) W9 HA9.out.h5)
                                    rw [I1] at HN1
                                    rw [I5] at HN5
                                    generalize D.slug (D.Z L[j].1 L[j].2).toNat = sg at c2 HN1
                                    generalize D.tf L[j].1 = fl at c0 HN5
                                    unfold dropped at c1
                                    clear I1 I5 hzz m1 m2
                                    go_wp2_with fail
                                    refine HN1.out.mono ?_
                                    rintro e w' ⟨rfl, hw⟩
                                    subst hw
                                    go_wp2_with fail
                                    refine HN5.out.mono ?_
                                    rintro e w' ⟨rfl, hw⟩
                                    subst hw
                                    go_wp2
                                    go_round
                                    case rel => exact ⟨j + 1, by omega, by go_num⟩
                                    case measure => simp [intOf]; omega
                                  · go_wp2
                                    go_ret
                                    exact ⟨rfl, HB9.out⟩
end Go.Proofs.Qxb6601102a
