/-
  THE WALKS, U: FnReportsToTeamManagerHasNoTeamLine.
-/
import Derived.Test.Qxb6601102aLaw3W
import Derived.Test.Qxb6601102aCount
import Derived.Test.Qxb6601102aReports
import Derived.Maps.Own
namespace Go.Proofs.Qxb6601102a
open Go.RowKit Go.Maps

structure Raw5 (w : World) (D : Dat) (x1 x2 x3 x4 x5 x6 x7 x8 : Sl) (R : Nat → Sl) : Prop where
  h1 : Strs w x1 D.slug
  h2 : Bools w x2 D.given
  h3 : Bools w x3 D.hr
  h4 : Strs w x4 D.rep
  h5 : Strs w x5 D.tf
  h6 : Strs w x6 D.ti
  h7 : Ints w x7 D.M
  h8 : Intss w x8 R D.Z
  n : D.n = x1.n
  K : D.K = x7.n
  nm : ∀ k, D.nm k = (R k).n

/-- A team that agent i manages and that names it: then the seat is in a team that it manages. -/
theorem seat_own {D : Dat} {i : Nat} (h : ∃ k, k < D.K ∧ D.M k = (i : Int) ∧ hasB (D.nm k) (D.Z k) (i : Int) = true) : ∃ d : Nat, dept D i = d ∧ d < D.K ∧ D.M d = (i : Int) := by
  obtain ⟨k, hk, hM, hB⟩ := h
  have hn : k ∈ named D i := named_mem hk hB
  have hm : k ∈ managed D i := List.mem_filter.2 ⟨hn, by simp [p44, hM]⟩
  have h0 : 0 < (managed D i).length := List.length_pos_of_mem hm
  have h1 := mnL_mem D h0
  obtain ⟨h2, h3⟩ := List.mem_filter.1 h1
  refine ⟨mnL D (managed D i), ?_, named_lt D i _ h2, by simpa [p44] using h3⟩
  unfold dept
  rw [if_neg (by have := List.length_pos_of_mem hn; omega), if_pos h0]

theorem make46 (n : Nat) (w : World) : (Instr.makeMap 46 (some (.int .i64 n))).run Try.prog w = .ok (.map (some w.heap.size)) (w.alloc (.map #[] 0)) := by kernel_rfl
theorem mapLaw : Keyed Try.prog 9 := string_keyed Try.underlying9

set_option maxRecDepth 100000 in
set_option maxHeartbeats 4000000 in
theorem law5_any {w : World} {D : Dat} {x1 x2 x3 x4 x5 x6 x7 x8 : Sl} {R : Nat → Sl} (h : Raw5 w D x1 x2 x3 x4 x5 x6 x7 x8 R) (z : Int) (hz : -9223372036854775808 ≤ z ∧ z ≤ 9223372036854775807) :
    Calls Try.prog 5 #[.slice x1.s x1.n x1.c, .slice x2.s x2.n x2.c, .slice x3.s x3.n x3.c, .slice x4.s x4.n x4.c, .slice x5.s x5.n x5.c, .slice x6.s x6.n x6.c, .slice x7.s x7.n x7.c, .slice x8.s x8.n x8.c, .int .i64 z] w (LawP w) := by
  have H := hid h
  obtain ⟨hz1, hz2⟩ := hz
  have l1 := h.h1.has.len
  have l2 := h.h2.has.len
  have l3 := h.h3.has.len
  have l4 := h.h4.has.len
  have l5 := h.h5.has.len
  have l6 := h.h6.has.len
  have l7 := h.h7.has.len
  have l8 := h.h8.has.len
  clear h
  go_enter Try.func5, Try.ntmps5
  go_wp2_with fail
  refine (bytes24_any x1 _ x2 x3 x4 _ x5 _ x6 _ x7 x8 R _ z w H.out.h1 l2 l3 H.out.h4 H.out.h5 H.out.h6 l7 H.out.h8).mono ?_
  rintro e w1 ⟨b, rfl, hw⟩
  subst hw
  cases b with
  | false =>
    go_wp2
    go_ret
    exact ⟨rfl, Below.refl _ _⟩
  | true =>
    go_wp2_with fail
    refine (strs_any x1 _ _ H.out.h1).mono ?_
    rintro e w1 ⟨m1, rfl, hw, hm1⟩
    subst hw
    go_wp2_with fail
    refine (bools_any x2 _).mono ?_
    rintro e w1 ⟨m2, rfl, hw, hm2⟩
    subst hw
    go_wp2_with fail
    refine (bools_any x3 _).mono ?_
    rintro e w1 ⟨m3, rfl, hw, hm3⟩
    subst hw
    go_wp2_with fail
    refine (strs_any x4 _ _ H.out.h4).mono ?_
    rintro e w1 ⟨m4, rfl, hw, hm4⟩
    subst hw
    go_wp2_with fail
    refine (strs_any x5 _ _ H.out.h5).mono ?_
    rintro e w1 ⟨m5, rfl, hw, hm5⟩
    subst hw
    go_wp2_with fail
    refine (strs_any x6 _ _ H.out.h6).mono ?_
    rintro e w1 ⟨m6, rfl, hw, hm6⟩
    subst hw
    go_wp2_with fail
    refine (ints_any x7 _).mono ?_
    rintro e w1 ⟨m7, rfl, hw, hm7⟩
    subst hw
    go_wp2_with fail
    refine (intss_rows x8 R _ _ H.out.h8).mono ?_
    rintro e w1 ⟨m8, rfl, hw, hm8, hrows⟩
    subst hw
    by_cases hs : (m1 : Int) + m2 + m3 + m4 + m5 + m6 + m7 + m8 > 1048576
    · clear hrows
      go_wp2
      go_ret
      exact ⟨rfl, Below.refl _ _⟩
    · have HRW := hid (hrows (by omega))
      clear hrows
      by_cases c1 : 4096 < x1.n
      · go_wp2
        go_ret
        exact ⟨rfl, Below.refl _ _⟩
      · by_cases c2 : 4096 < x7.n
        · go_wp2
          go_ret
          exact ⟨rfl, Below.refl _ _⟩
        · cases d2 : ((x2.n : Int) != (x1.n : Int)) with
          | true =>
            go_wp2
            go_ret
            exact ⟨rfl, Below.refl _ _⟩
          | false =>
            cases d3 : ((x3.n : Int) != (x1.n : Int)) with
            | true =>
              go_wp2
              go_ret
              exact ⟨rfl, Below.refl _ _⟩
            | false =>
              cases d4 : ((x4.n : Int) != (x1.n : Int)) with
              | true =>
                go_wp2
                go_ret
                exact ⟨rfl, Below.refl _ _⟩
              | false =>
                cases d5 : ((x5.n : Int) != (x7.n : Int)) with
                | true =>
                  go_wp2
                  go_ret
                  exact ⟨rfl, Below.refl _ _⟩
                | false =>
                  cases d6 : ((x6.n : Int) != (x7.n : Int)) with
                  | true =>
                    go_wp2
                    go_ret
                    exact ⟨rfl, Below.refl _ _⟩
                  | false =>
                    cases d8 : ((x8.n : Int) != (x7.n : Int)) with
                    | true =>
                      go_wp2
                      go_ret
                      exact ⟨rfl, Below.refl _ _⟩
                    | false =>
                      have q2 := hid (ne_false d2)
                      have q3 := hid (ne_false d3)
                      have q4 := hid (ne_false d4)
                      have q5 := hid (ne_false d5)
                      have q6 := hid (ne_false d6)
                      have q8 := hid (ne_false d8)
                      go_wp2_with fail
                      refine (fit_any x1.n x7 _ x8 R _ _ H.out.h7 H.out.h8 q8.out).mono ?_
                      rintro e w1 ⟨b, rfl, hw, hfit⟩
                      subst hw
                      cases b with
                      | false =>
                        go_wp2
                        go_ret
                        exact ⟨rfl, Below.refl _ _⟩
                      | true =>
                        have HF := hid (hfit rfl)
                        clear hfit d2 d3 d4 d5 d6 d8
                        have HB0 := hid (Below.refl w1.heap.size w1)
                        by_cases hz0 : z < 0
                        · have e1 : decide (z < 0) = true := by simpa using hz0
                          go_wp2
                          go_ret
                          exact ⟨rfl, Below.refl _ _⟩
                        · have e1 : decide (z < 0) = false := by simpa using hz0
                          by_cases hzn : (x1.n : Int) ≤ z
                          · have e2 : decide ((x1.n : Int) ≤ z) = true := by simpa using hzn
                            go_wp2
                            go_ret
                            exact ⟨rfl, Below.refl _ _⟩
                          · have e2 : decide ((x1.n : Int) ≤ z) = false := by simpa using hzn
                            obtain ⟨i, rfl⟩ := Int.eq_ofNat_of_zero_le (show 0 ≤ z by omega)
                            have hin : i < x1.n := by omega
                            have i2 := idx23 H.out.h2.has i (by have := q2.out; omega)
                            have c2' := H.out.h2.has.cell (i := i) (by have := q2.out; omega)
                            clear hz0 hzn hz1 hz2
                            cases hg : D.given i with
                            | true =>
                              rw [hg] at c2'
                              clear hg
                              go_wp2
                              go_ret
                              exact ⟨rfl, Below.refl _ _⟩
                            | false =>
                              rw [hg] at c2'
                              have HG := hid hg
                              clear hg
                              go_wp2
                              clear i2 c2'
                              generalize decide (x1.n ≤ i) = bb
                              clear e1 e2
                              go_loop [20, 21] (fun b k => ∃ (k' : Nat) (c : Bool), k' ≤ x7.n ∧ k = .int .i64 k' ∧ b = .bool c ∧ (c = true → ∃ x, x < k' ∧ D.M x = (i : Int) ∧ hasB (D.nm x) (D.Z x) (i : Int) = true)) (fun _ k => x7.n - (intOf k).toNat)
                              case atStart => exact ⟨0, false, Nat.zero_le _, rfl, rfl, fun h => by cases h⟩
                              case round =>
                                obtain ⟨k, c, hk, rfl, rfl, hc⟩ := hrel
                                have HC := hid hc
                                clear hc
                                by_cases hkt : k < x7.n
                                · have hix := idx24 H.out.h7.has k hkt
                                  have hcm := H.out.h7.has.cell hkt
                                  have HC1 : Hid (c = true → ∃ x, x < k + 1 ∧ D.M x = (i : Int) ∧ hasB (D.nm x) (D.Z x) (i : Int) = true) := fun h => by
                                    obtain ⟨x, h1, h2⟩ := HC.out h
                                    exact ⟨x, by omega, h2⟩
                                  cases hm : (D.M k == (i : Int)) with
                                  | false =>
                                    go_wp2
                                    go_round
                                    case rel => exact ⟨k + 1, c, by omega, by go_num, rfl, HC1.out⟩
                                    case measure => simp [intOf]; omega
                                  | true =>
                                    have hk8 : k < x8.n := by have := q8.out; omega
                                    have hix8 := idx25 H.out.h8.has k hk8
                                    have hc8 := H.out.h8.has.cell hk8
                                    have HN := hid (names_any (R k) (D.Z k) i _ (H.out.h8.rows k hk8))
                                    have EN : hasB (R k).n (D.Z k) (i : Int) = hasB (D.nm k) (D.Z k) (i : Int) := by rw [H.out.nm]
                                    rw [EN] at HN
                                    clear EN
                                    have HMK : Hid (D.M k = (i : Int)) := by unfold Hid; simpa using hm
                                    cases hb : hasB (D.nm k) (D.Z k) (i : Int) with
                                    | false =>
                                      rw [hb] at HN
                                      clear hb
                                      go_wp2_with fail
                                      refine HN.out.mono ?_
                                      rintro e w' ⟨rfl, hw⟩
                                      subst hw
                                      go_wp2
                                      go_round
                                      case rel => exact ⟨k + 1, c, by omega, by go_num, rfl, HC1.out⟩
                                      case measure => simp [intOf]; omega
                                    | true =>
                                      rw [hb] at HN
                                      have HBK := hid hb
                                      clear hb
                                      go_wp2_with fail
                                      refine HN.out.mono ?_
                                      rintro e w' ⟨rfl, hw⟩
                                      subst hw
                                      go_wp2
                                      go_round
                                      case rel => exact ⟨k + 1, true, by omega, by go_num, rfl, fun _ => ⟨k, by omega, HMK.out, HBK.out⟩⟩
                                      case measure => simp [intOf]; omega
                                · cases c with
                                  | false =>
                                    go_wp2
                                    go_ret
                                    exact ⟨rfl, Below.refl _ _⟩
                                  | true =>
                                    have HOWN : Hid (∃ d : Nat, dept D i = d ∧ d < D.K ∧ D.M d = (i : Int)) := by
                                      obtain ⟨x, h1, h2⟩ := HC.out rfl
                                      exact seat_own ⟨x, by have := H.out.K; omega, h2⟩
                                    clear HC
                                    go_wp2_with fail
                                    refine (cloneStrs_any x1 _ _ (H.out.h1.below HB0.out).has (by have := q2.out; have := q3.out; have := q4.out; have := q5.out; have := q6.out; have := q8.out; omega)).mono ?_
                                    rintro e W1 ⟨y1, rfl, n1, k1, v1, b1, z1⟩
                                    have HB1 := hid (below_then HB0.out b1)
                                    have HY1 := hid v1
                                    have N1 := hid n1
                                    clear v1 b1 n1 k1 z1
                                    go_wp2_with fail
                                    refine (cloneBools_any x2 _ _ (H.out.h2.below HB1.out).has (by have := q2.out; have := q3.out; have := q4.out; have := q5.out; have := q6.out; have := q8.out; omega)).mono ?_
                                    rintro e W2 ⟨y2, rfl, n2, k2, v2, b2, z2⟩
                                    have HB2 := hid (below_then HB1.out b2)
                                    have HY2 := hid v2
                                    have N2 := hid n2
                                    replace HY1 := hid (HY1.out.below b2)
                                    clear v2 b2 n2 k2 z2
                                    go_wp2_with fail
                                    refine (cloneBools_any x3 _ _ (H.out.h3.below HB2.out).has (by have := q2.out; have := q3.out; have := q4.out; have := q5.out; have := q6.out; have := q8.out; omega)).mono ?_
                                    rintro e W3 ⟨y3, rfl, n3, k3, v3, b3, z3⟩
                                    have HB3 := hid (below_then HB2.out b3)
                                    have HY3 := hid v3
                                    have N3 := hid n3
                                    replace HY1 := hid (HY1.out.below b3)
                                    replace HY2 := hid (HY2.out.below b3)
                                    clear v3 b3 n3 k3 z3
                                    go_wp2_with fail
                                    refine (cloneStrs_any x4 _ _ (H.out.h4.below HB3.out).has (by have := q2.out; have := q3.out; have := q4.out; have := q5.out; have := q6.out; have := q8.out; omega)).mono ?_
                                    rintro e W4 ⟨y4, rfl, n4, k4, v4, b4, z4⟩
                                    have HB4 := hid (below_then HB3.out b4)
                                    have HY4 := hid v4
                                    have N4 := hid n4
                                    replace HY1 := hid (HY1.out.below b4)
                                    replace HY2 := hid (HY2.out.below b4)
                                    replace HY3 := hid (HY3.out.below b4)
                                    clear v4 b4 n4 k4 z4
                                    go_wp2_with fail
                                    refine (cloneStrs_any x5 _ _ (H.out.h5.below HB4.out).has (by have := q2.out; have := q3.out; have := q4.out; have := q5.out; have := q6.out; have := q8.out; omega)).mono ?_
                                    rintro e W5 ⟨y5, rfl, n5, k5, v5, b5, z5⟩
                                    have HB5 := hid (below_then HB4.out b5)
                                    have HY5 := hid v5
                                    have N5 := hid n5
                                    replace HY1 := hid (HY1.out.below b5)
                                    replace HY2 := hid (HY2.out.below b5)
                                    replace HY3 := hid (HY3.out.below b5)
                                    replace HY4 := hid (HY4.out.below b5)
                                    clear v5 b5 n5 k5 z5
                                    go_wp2_with fail
                                    refine (cloneStrs_any x6 _ _ (H.out.h6.below HB5.out).has (by have := q2.out; have := q3.out; have := q4.out; have := q5.out; have := q6.out; have := q8.out; omega)).mono ?_
                                    rintro e W6 ⟨y6, rfl, n6, k6, v6, b6, z6⟩
                                    have HB6 := hid (below_then HB5.out b6)
                                    have HY6 := hid v6
                                    have N6 := hid n6
                                    replace HY1 := hid (HY1.out.below b6)
                                    replace HY2 := hid (HY2.out.below b6)
                                    replace HY3 := hid (HY3.out.below b6)
                                    replace HY4 := hid (HY4.out.below b6)
                                    replace HY5 := hid (HY5.out.below b6)
                                    clear v6 b6 n6 k6 z6
                                    go_wp2_with fail
                                    refine (cloneInts_any x7 _ _ (H.out.h7.below HB6.out).has (by have := q2.out; have := q3.out; have := q4.out; have := q5.out; have := q6.out; have := q8.out; omega)).mono ?_
                                    rintro e W7 ⟨y7, rfl, n7, k7, v7, b7, z7⟩
                                    have HB7 := hid (below_then HB6.out b7)
                                    have HY7 := hid v7
                                    have N7 := hid n7
                                    replace HY1 := hid (HY1.out.below b7)
                                    replace HY2 := hid (HY2.out.below b7)
                                    replace HY3 := hid (HY3.out.below b7)
                                    replace HY4 := hid (HY4.out.below b7)
                                    replace HY5 := hid (HY5.out.below b7)
                                    replace HY6 := hid (HY6.out.below b7)
                                    clear v7 b7 n7 k7 z7
                                    go_wp2_with fail
                                    refine (cloneIntss_any x8 R _ _ (H.out.h8.below HB7.out) (by have := q8.out; omega) HRW.out).mono ?_
                                    rintro e W8 ⟨y8, Y, rfl, n8, v8, r8, b8⟩
                                    have HB8 := hid (below_then HB7.out b8)
                                    replace HY1 := hid (HY1.out.below b8)
                                    replace HY2 := hid (HY2.out.below b8)
                                    replace HY3 := hid (HY3.out.below b8)
                                    replace HY4 := hid (HY4.out.below b8)
                                    replace HY5 := hid (HY5.out.below b8)
                                    replace HY6 := hid (HY6.out.below b8)
                                    replace HY7 := hid (HY7.out.below b8)
                                    have HA : Hid (Args W8 D y1 y2 y3 y4 y5 y6 y7 y8 Y) := by
                                      have eK := H.out.K
                                      have eN := H.out.n
                                      have n1 := N1.out
                                      have n2 := N2.out
                                      have n3 := N3.out
                                      have n4 := N4.out
                                      have n5 := N5.out
                                      have n6 := N6.out
                                      have n7 := N7.out
                                      have p2 := q2.out
                                      have p3 := q3.out
                                      have p4 := q4.out
                                      have p5 := q5.out
                                      have p6 := q6.out
                                      have p8 := q8.out
                                      exact ⟨⟨HY1.out, fun i hi => H.out.h1.size i (by omega)⟩, by omega, Or.inr ⟨by omega, ⟨HY2.out⟩⟩, ⟨HY3.out⟩, by omega, ⟨HY4.out, fun i hi => H.out.h4.size i (by omega)⟩, by omega, by omega, ⟨HY5.out, fun i hi => H.out.h5.size i (by omega)⟩, by omega, ⟨HY6.out, fun i hi => H.out.h6.size i (by omega)⟩, by omega,
                                        ⟨HY7.out, fun i hi => H.out.h7.bd i (by omega)⟩, by omega, v8, by omega, by omega, fun k hk => ⟨by rw [r8 k (by omega), H.out.nm], by rw [r8 k (by omega)]; exact HRW.out k (by omega)⟩, fun k hk => by rw [eN]; exact HF.out.mgr k (by omega), fun k hk j hj => by rw [eN]; exact HF.out.nm k (by omega) j (by rw [H.out.nm] at hj; exact hj)⟩
                                    clear n8 v8 r8 b8
                                    have hmm := fun w => make46 x1.n w
                                    have Q1 : Hid (y1.n = x1.n) := N1.out
                                    have Q7 : Hid (y7.n = x7.n) := N7.out
                                    go_wp2
                                    clear hmm
                                    go_loopw [23] (fun j wr => ∃ (j' : Nat) (C : DataW Unit), j' ≤ x1.n ∧ j = .int .i64 j' ∧ wr.ownsMap Try.prog 9 (plainElem Try.prog 3) W8.heap.size j' C ∧ Below W8.heap.size W8 wr) (fun j _ => x1.n - (intOf j).toNat)
                                    case atStart => exact ⟨0, .map [], Nat.zero_le _, rfl, World.ownsMap_made _ _ _ _, (Below.refl _ _).alloc (Nat.le_refl _) _⟩
                                    case round =>
                                      obtain ⟨j, C, hj, rfl, hown, hnx⟩ := hrel
                                      have HAw := hid (HA.out.below hnx)
                                      have HNX := hid hnx
                                      by_cases hjt : j < x1.n
                                      · have hj1 : j < y1.n := by rw [Q1.out]; exact hjt
                                        have ix1 := idx22 HAw.out.h1.has j hj1
                                        have cx1 := HAw.out.h1.has.cell hj1
                                        have hkey := WideMaps.keyOf_string_mk (P := Try.prog) Try.underlying9 (s := D.slug j) (by have := HAw.out.h1.size j hj1; unfold maxLen; omega)
                                        have HK := hid hkey
                                        have HOW := hid hown
                                        generalize D.slug j = sg at cx1 HK
                                        clear hkey hown hnx
                                        go_wp2_with (at_mapUpdate; refine wpList_mapUpdate_own _ rfl _ _ _ 46 rfl 9 3 mapLaw Try.underlying46 _ W8.heap.size j _ rfl HOW.out (by unfold maxLen; omega) _ _ _ rfl rfl HK.out _ [] (plainElem_int Try.underlying3 (WalkArith.wf_i64 (by omega))) ?_)
                                        intro w2 hown2 hgrow2
                                        have R1 := hid hown2
                                        have R2 := hid (HNX.out.grown hgrow2 HNX.out.size (fun g hg => by cases hg; exact Nat.le_refl _))
                                        clear hown2 hgrow2 HOW HK
                                        go_wp2
                                        go_roundw
                                        case rel => exact ⟨j + 1, _, by omega, by go_num, R1.out, R2.out⟩
                                        case measure => simp [intOf]; omega
                                      · have HBw := hid (below_then HB8.out hnx)
                                        clear hown hnx
                                        go_wp2_with fail
                                        refine (placeB_any HAw.out).mono ?_
                                        rintro e W9 ⟨dB, s, c, B, he, hdr, hown, hb⟩
                                        have HB9 := hid (below_then HBw.out hb)
                                        have HA9 := hid (HAw.out.below hb)
                                        rw [H.out.n] at he hdr
                                        subst he
                                        obtain ⟨d, hd1, hd2, hd3⟩ := HOWN.out
                                        have hdc := hdr.cell hin
                                        rw [hd1] at hdc
                                        have hd7 : d < y7.n := by have := H.out.K; have := Q7.out; omega
                                        have i7 := idx24 HA9.out.h7.has d hd7
                                        have c7 := HA9.out.h7.has.cell hd7
                                        rw [hd3] at c7
                                        have b1 : decide ((d : Int) < 0) = false := by simp
                                        have b2 : decide ((y7.n : Int) ≤ (d : Int)) = false := by rw [decide_eq_false]; omega
                                        have HRp := hid (reportsB_any HA9.out i d (by have := H.out.n; omega) hd2 HG.out hd3 (.map (some W8.heap.size)))
                                        generalize (dl D D.K).length = nl
                                        clear hdr hown hb hd1 hd3
                                        go_wp2_with fail
                                        refine HRp.out.mono ?_
                                        rintro e W10 ⟨rfl, hb10⟩
                                        have HB10 := hid (below_then HB9.out hb10)
                                        clear hb10
                                        go_wp2
                                        go_ret
                                        exact ⟨rfl, HB10.out⟩
end Go.Proofs.Qxb6601102a
