/-
  Seat b6601041a: THE LAW FnGlobInsertedStarKeepsEveryMatch, walked.
-/
import Derived.Test.Qxb6601041aAcc
import Derived.Test.Qxb6601041aLaw8W
namespace Go.Proofs.Qxb6601041a
open Go.RowKit

/-- n cells of runes. -/
def fillA (G : Nat → Int) (n : Nat) : Array Value := ((List.range n).map fun i => Value.int .i32 (G i)).toArray
def updI (G : Nat → Int) (j : Nat) (v : Int) : Nat → Int := fun i => if i = j then v else G i
theorem fill_get (G : Nat → Int) (n i : Nat) (h : i < n) : (fillA G n)[i]? = some (.int .i32 (G i)) := by simp [fillA, h]
theorem fill_set (G : Nat → Int) (n j : Nat) (v : Int) : (fillA G n).setIfInBounds j (.int .i32 v) = fillA (updI G j v) n := by
  unfold fillA
  rw [List.setIfInBounds_toArray]
  congr 1
  apply List.ext_getElem?
  intro i
  rw [List.getElem?_set]
  by_cases hi : i < n
  · by_cases e : j = i
    · subst e
      simp [hi, updI]
    · simp [hi, e, updI, Ne.symm e]
  · by_cases e : j = i
    · subst e
      simp [hi]
    · simp [hi, e]
theorem fill_made (n : Nat) : madeCells #[.int .i32 0] n = fillA (fun _ => 0) n := by
  unfold madeCells fillA
  apply Array.ext'
  simp [Array.toList_range]
  intro a _
  simp [Nat.mod_one]

theorem fill_has (w : World) (G : Nat → Int) (n : Nat) (hn : n ≤ 9223372036854775807) : Runes (w.alloc (.cells (fillA G n) 21)) ⟨some ⟨w.heap.size, 0, none⟩, n, n, w.heap.size, 0⟩ G :=
  ⟨fun i hi => ⟨rfl, by
    show (w.alloc (.cells (fillA G n) 21)).cell? ⟨w.heap.size, 0 + i, none⟩ = some (.int .i32 (G i))
    rw [World.cell?_alloc_at _ _ _ _ rfl, Nat.zero_add, fill_get _ _ _ hi]⟩, hn⟩

set_option maxRecDepth 100000 in
set_option maxHeartbeats 4000000 in
theorem law5_any {w : World} (x0 x1 x2 : Sl) (P V : Nat → Int) (Wd : Nat → Bool) (words : Bool) (a4 : Int) (h0 : Runes w x0 P) (h1 : Runes w x1 V) (h2 : Bools w x2 Wd) (h3 : -9223372036854775808 ≤ a4 ∧ a4 ≤ 9223372036854775807) :
    Calls Try.prog 5 #[.slice x0.s x0.n x0.c, .slice x1.s x1.n x1.c, .slice x2.s x2.n x2.c, .bool words, .int .i64 a4] w (TrueP w) := by
  have l0 := h0.len
  have l1 := h1.len
  have l2 := h2.len
  have H0 := hid h0
  have H1 := hid h1
  have H2 := hid h2
  clear h0 h1 h2
  go_enter Try.func5, Try.ntmps5
  go_upto_region 3 with (go_at_call 19; refine (bytes19_any x0 x1 x2 words a4 _ l0 l1 l2).mono ?_; rintro e w' ⟨bb, rfl, rfl⟩)
  · go_ret
    exact TrueP.mk rfl (Below.refl _ _)
  by_cases g0 : x0.n ≤ 1024
  rotate_left
  · go_wp2
    all_goals (go_ret; exact TrueP.mk rfl (Below.refl _ _))
  by_cases g1 : x1.n ≤ 1024
  rotate_left
  · go_wp2
    all_goals (go_ret; exact TrueP.mk rfl (Below.refl _ _))
  by_cases g2 : x2.n = x1.n
  rotate_left
  · have g2b : ((x2.n : Int) != (x1.n : Int)) = true := by simp only [bne_iff_ne, ne_eq]; omega
    go_wp2
    all_goals (go_ret; exact TrueP.mk rfl (Below.refl _ _))
  have g2b : ((x2.n : Int) != (x1.n : Int)) = false := by simp only [g2, bne_self_eq_false]
  have g2l : x2.n ≤ 1024 := by omega
  have GEQ := hid g2
  clear g2
  by_cases g3 : a4 < 0 ∨ (x0.n : Int) < a4
  · rcases g3 with g3 | g3
    · go_wp2
      all_goals (go_ret; exact TrueP.mk rfl (Below.refl _ _))
    · go_wp2
      all_goals (go_ret; exact TrueP.mk rfl (Below.refl _ _))
  obtain ⟨k, rfl⟩ : ∃ k : Nat, a4 = (k : Int) := ⟨a4.toNat, by omega⟩
  have hkn : k ≤ x0.n := by omega
  clear g3
  go_upto_region 10 with (go_at_call 12; refine (cloneRunes_any x0 P _ H0.out (by omega)).mono ?_; rintro e wa hcp; obtain ⟨s0, p0, o0, rfl, hh0, hb0, hl0⟩ := hcp.q)
  have Y0 := hid hh0
  have B0 := hid hb0
  have L0 := hid hl0
  have h1a := hid (H1.out.below hb0)
  have h2a := hid (H2.out.below hb0)
  clear hh0 hb0 hl0
  go_upto_region 11 with (go_at_call 12; refine (cloneRunes_any x1 V _ h1a.out (by omega)).mono ?_; rintro e wb hcp; obtain ⟨s1, p1, o1, rfl, hh1, hb1, hl1⟩ := hcp.q)
  have Y0b := hid (Y0.out.below hb1)
  have B1 := hid (B0.out.trans (hb1.mono B0.out.size))
  have h2b := hid (h2a.out.below hb1)
  have Y1 := hid hh1
  have L1 := hid hl1
  clear hh1 hb1 hl1 h1a h2a Y0 B0 L0
  go_upto_region 12 with (go_at_call 13; refine (cloneBools_any x2 Wd _ h2b.out (by omega)).mono ?_; rintro e wc hcp; obtain ⟨s2, p2, o2, rfl, hh2, hb2, hl2⟩ := hcp.q)
  have Y0c := hid (Y0b.out.below hb2)
  have Y1c := hid (Y1.out.below hb2)
  have B2 := hid (B1.out.trans (hb2.mono B1.out.size))
  have Y2 := hid hh2
  have L2 := hid hl2
  have L1c := hid (fun h => Nat.lt_of_lt_of_le (L1.out h) hb2.size)
  clear hh2 hb2 hl2 h2b Y0b Y1 B1 L1
  obtain ⟨N, hN⟩ : ∃ N, N = x0.n + 1 := ⟨_, rfl⟩
  have hNI : (x0.n : Int) + 1 = (N : Int) := by omega
  have hNb : N ≤ 1025 := by omega
  have HNE := hid hN
  have hmk := run_make_row' (P := Try.prog) 22 21 (.int .i32 0) 4 Try.underlying22 info21 rfl .i64 .i64 N (by omega) (by omega)
  clear hN
  go_upto_region 14 with fail
  generalize decide (262144 < (x0.n : Int)) = d0
  generalize decide (262144 < (x1.n : Int)) = d1
  generalize decide (1048576 < (x2.n : Int)) = d2
  generalize decide (1048576 < 4 * (x0.n : Int) + 4 * (x1.n : Int) + (x2.n : Int)) = d3
  generalize decide (1024 < (x0.n : Int)) = d4
  generalize decide (1024 < (x1.n : Int)) = d5
  generalize decide ((k : Int) < 0) = d6
  generalize decide ((x0.n : Int) < (k : Int)) = d7
  rw [fill_made]
  clear hmk hNI
  have hp0 : 0 < x0.n → p0 < wc.heap.size := fun h => Y0c.out.blk h
  have HP0 := hid hp0
  clear hp0
  go_loopw [12] (fun a wr => ∃ (i : Nat) (G : Nat → Int), a = .int .i64 i ∧ i ≤ k ∧ wr = wc.alloc (.cells (fillA G N) 21) ∧ Hid (∀ p, p < i → G p = P p)) (fun a _ => k - (intOf a).toNat)
  case atStart => exact ⟨0, _, rfl, Nat.zero_le _, rfl, fun p hp => absurd hp (Nat.not_lt_zero _)⟩
  case round =>
    obtain ⟨i, G, rfl, hik, rfl, HG1⟩ := hrel
    by_cases hlt : i < k
    · have hin : i < x0.n := by omega
      have hix := idx22 Y0c.out i hin
      have hce := Y0c.out.cell hin
      have hbl := HP0.out (by omega)
      have hiN : i < N := by have := HNE.out; omega
      have hfg := fill_get G N i hiN
      have HFS := hid (fill_set G N i (P i))
      go_wp2
      go_roundw
      case rel => exact ⟨i + 1, updI G i (P i), by go_num, by omega, by rw [← HFS.out], fun p hp => by
        unfold updI
        split
        · rename_i e
          rw [e]
        · exact HG1.out p (by omega)⟩
      case measure => simp [intOf]; omega
    · obtain rfl : i = k := by omega
      clear hlt hik
      have hkN : i < N := by have := HNE.out; omega
      have hfk := fill_get G N i hkN
      have HFS0 := hid (fill_set G N i (-2))
      go_wp2
      clear hfk
      go_loopw [13] (fun a wr => ∃ (j : Nat) (G : Nat → Int), a = .int .i64 j ∧ i ≤ j ∧ j ≤ x0.n ∧ wr = wc.alloc (.cells (fillA G N) 21) ∧ Hid ((∀ p, p < i → G p = P p) ∧ G i = -2 ∧ ∀ p, i ≤ p → p < j → G (p + 1) = P p)) (fun a _ => x0.n - (intOf a).toNat)
      case atStart => exact ⟨i, updI G i (-2), rfl, Nat.le_refl _, hkn, by rw [← HFS0.out], ⟨fun p hp => by
        unfold updI
        rw [if_neg (by omega)]
        exact HG1.out p hp, by simp [updI], fun p h1 h2 => by omega⟩⟩
      case round =>
        obtain ⟨j, G2, rfl, hij, hjn, rfl, HG2⟩ := hrel
        by_cases hlt : j < x0.n
        · have hix := idx22 Y0c.out j hlt
          have hce := Y0c.out.cell hlt
          have hbl := HP0.out (by omega)
          have hjN : j + 1 < N := by have := HNE.out; omega
          have hfg := fill_get G2 N (j + 1) hjN
          have HFS := hid (fill_set G2 N (j + 1) (P j))
          go_wp2
          go_roundw
          case rel => exact ⟨j + 1, updI G2 (j + 1) (P j), by go_num, by omega, by omega, by rw [← HFS.out], ⟨fun p hp => by
            unfold updI
            rw [if_neg (by omega)]
            exact HG2.out.1 p hp, by
            unfold updI
            rw [if_neg (by omega)]
            exact HG2.out.2.1, fun p h1 h2 => by
            unfold updI
            split
            · rename_i e
              rw [show p = j by omega]
            · exact HG2.out.2.2 p h1 (by omega)⟩⟩
          case measure => simp [intOf]; omega
        · obtain rfl : j = x0.n := by omega
          have hWid : Wider P G2 x0.n i := ⟨hkn, HG2.out.1, HG2.out.2.1, HG2.out.2.2⟩
          have HWid := hid hWid
          have hB4 : Below wc.heap.size wc (wc.alloc (.cells (fillA G2 N) 21)) := (Below.refl _ wc).alloc (Nat.le_refl _) _
          have YW := hid (fill_has wc G2 N (by omega))
          have Y0d := hid (Y0c.out.below hB4)
          have Y1d := hid (Y1c.out.below hB4)
          have Y2d := hid (Y2.out.below hB4)
          have B4 := hid (B2.out.trans (hB4.mono B2.out.size))
          have S4 : Hid (wc.heap.size < (wc.alloc (.cells (fillA G2 N) 21)).heap.size) := by simp [Hid]
          clear hWid hB4 HG1 HG2 HFS0 Y0c Y1c Y2 B2 hlt hjn hij
          go_upto_region 22 with fail
          revert YW Y0d Y1d Y2d B4 S4
          generalize wc.alloc (.cells (fillA G2 N) 21) = W4
          intro YW Y0d Y1d Y2d B4 S4
          generalize wc.heap.size = pw at *
          have HNF := hid (newFolded_any W4 ⟨s1, x1.n, x1.n, p1, o1⟩ ⟨s2, x2.n, x2.n, p2, o2⟩)
          have hB5 : Below W4.heap.size W4 (W4.alloc (.cells #[.slice s1 x1.n x1.n, .slice s2 x2.n x2.n, .slice none 0 0] 52)) := (Below.refl _ W4).alloc (Nat.le_refl _) _
          have YW5 := hid (YW.out.below hB5)
          have Y05 := hid (Y0d.out.below hB5)
          have B5 := hid (B4.out.trans (hB5.mono B4.out.size))
          have HFB : Hid (FoldB (W4.alloc (.cells #[.slice s1 x1.n x1.n, .slice s2 x2.n x2.n, .slice none 0 0] 52)) W4.heap.size ⟨s1, x1.n, x1.n, p1, o1⟩ ⟨s2, x2.n, x2.n, p2, o2⟩ V Wd (.slice none 0 0)) :=
            ⟨heap_alloc_new W4 _, Or.inl rfl, Y1d.out.below hB5, Y2d.out.below hB5, GEQ.out, Nat.le_refl _, by show x1.n ≤ _; omega, fun h => Y1d.out.blk h, fun h => Y2d.out.blk h⟩
          have BL : Hid (w'.heap.size ≤ W4.heap.size) := B4.out.size
          clear hB5 YW Y0d Y1d Y2d B4
          go_upto_region 23 with (go_at_call 16; refine HNF.out.mono ?_; rintro e we ⟨rfl, rfl⟩)
          revert YW5 Y05 B5 HFB
          generalize W4.alloc (.cells #[.slice s1 x1.n x1.n, .slice s2 x2.n x2.n, .slice none 0 0] 52) = W5
          generalize W4.heap.size = fb at *
          intro YW5 Y05 B5 HFB
          have HC1 := hid (compile_any ⟨s0, x0.n, x0.n, p0, o0⟩ P words Y05.out (by show x0.n ≤ _; omega) (Nat.le_refl _) (by show x0.n ≤ _; omega) (fun h _ => h))
          have HMT : Hid (∀ w6 R vc vl vm vs, GP w6 W5.heap.size (.bool words) w6 (allC R) (allL R) (allM R) R.length (spans R 0 0 0) vc vl vm vs → CB R (x0.n + 1) → All P x0.n (R.map rd) → Below W5.heap.size W5 w6 → Calls Try.prog 15 #[.pointer (some ⟨W5.heap.size, 0, none⟩), .pointer (some ⟨fb, 0, none⟩)] w6 (MatP fb ⟨s1, x1.n, x1.n, p1, o1⟩ ⟨s2, x2.n, x2.n, p2, o2⟩ V Wd (Matches P x0.n x1.n V Wd words) w6)) := fun w6 R vc vl vm vs h1 h2 h3 h4 =>
            zzmatches_any (y := ⟨s1, x1.n, x1.n, p1, o1⟩) (z := ⟨s2, x2.n, x2.n, p2, o2⟩) ⟨_, h1, HFB.out.below h4, fun b _ => nofun⟩ h2 h3 (by omega)
          go_upto_if 119 with (first | (go_at_call 15; refine hmt.out.mono ?_; rintro e w7 ⟨b7, rfl, hb7, hf7, hB7⟩) | (go_at_call 14; refine HC1.out.mono ?_; rintro e w6 ⟨rfl, R6, vc6, vl6, vm6, vs6, g6, cb6, all6, B6⟩; have hmt := hid (HMT.out w6 R6 vc6 vl6 vm6 vs6 g6 cb6 all6 B6)))
          obtain ⟨sv7, hf7⟩ := hf7
          have hfl5 : fb < W5.heap.size := HFB.out.lt
          have B7 := hid (B5.out.trans ((B6.mono B5.out.size).trans (hB7.mono BL.out)))
          have HF7 := hid hf7
          have YW7 : Hid (Runes w7 ⟨some ⟨pw, 0, none⟩, N, N, pw, 0⟩ G2) := YW5.out.kept (fun h => by
            have h1 := S4.out
            rw [hB7.block pw (by omega), B6.block pw (by omega)])
          have HB7 := hid hb7
          clear hf7 hB7 hb7 hmt g6 cb6 all6 B6 HMT HC1 HNF
          cases b7 with
          | false =>
            go_wp2
            go_ret
            exact TrueP.mk rfl B7.out
          | true =>
            have hM1 := hid (HB7.out.1 rfl)
            have HC2 := hid (compile_any ⟨some ⟨pw, 0, none⟩, N, N, pw, 0⟩ G2 words YW7.out hNb (Nat.le_refl _) (by show N ≤ _; omega) (fun _ h => by cases h))
            have HMT2 : Hid (∀ w8 R vc vl vm vs, GP w8 w7.heap.size (.bool words) w8 (allC R) (allL R) (allM R) R.length (spans R 0 0 0) vc vl vm vs → CB R (N + 1) → All G2 N (R.map rd) → Below w7.heap.size w7 w8 → Calls Try.prog 15 #[.pointer (some ⟨w7.heap.size, 0, none⟩), .pointer (some ⟨fb, 0, none⟩)] w8 (MatP fb ⟨s1, x1.n, x1.n, p1, o1⟩ ⟨s2, x2.n, x2.n, p2, o2⟩ V Wd (Matches G2 N x1.n V Wd words) w8)) := fun w8 R vc vl vm vs h1 h2 h3 h4 =>
              zzmatches_any (y := ⟨s1, x1.n, x1.n, p1, o1⟩) (z := ⟨s2, x2.n, x2.n, p2, o2⟩) ⟨sv7, h1, HF7.out.below h4, fun b hb e => by
                have h5 := (h1.hm.lt b hb).1
                have h6 := (HF7.out.scr.lt b e).2
                omega⟩ h2 h3 (by omega)
            go_wp2_with (first | (go_at_call 15; refine hmt.out.mono ?_; rintro e w9 ⟨b9, rfl, hb9, hf9, hB9⟩) | (go_at_call 14; refine HC2.out.mono ?_; rintro e w8 ⟨rfl, R8, vc8, vl8, vm8, vs8, g8, cb8, all8, B8⟩; have hmt := hid (HMT2.out w8 R8 vc8 vl8 vm8 vs8 g8 cb8 all8 B8)))
            go_ret
            refine TrueP.mk ?_ (B7.out.trans ((B8.mono B7.out.size).trans (hB9.mono BL.out)))
            rw [hb9]
            have := matches_wider HWid.out hM1.out
            rw [HNE.out]
            exact this
end Go.Proofs.Qxb6601041a
