/-
  THE WALKS, P: FnPlaceMatchesRankingModel.
-/
import Derived.Test.Qxb6601102aModelW
import Derived.Test.Qxb6601102aGuard2
import Derived.Test.Qxb6601102aBytes
import Derived.Test.Qxb6601102aClones
namespace Go.Proofs.Qxb6601102a
open Go.RowKit

/-- The arguments as they come in. -/
structure Raw (w : World) (D : Dat) (x1 x3 x4 x5 x6 x7 x8 : Sl) (R : Nat → Sl) : Prop where
  h1 : Strs w x1 D.slug
  h3 : Bools w x3 D.hr
  h4 : Strs w x4 D.rep
  h5 : Strs w x5 D.tf
  h6 : Strs w x6 D.ti
  h7 : Ints w x7 D.M
  h8 : Intss w x8 R D.Z
  n : D.n = x1.n
  K : D.K = x7.n
  nm : ∀ k, D.nm k = (R k).n
  given : ∀ i, D.given i = false

theorem ne_false {a b : Nat} (h : ((a : Int) != (b : Int)) = false) : a = b := by
  have := beq_iff_eq.1 (by simpa [bne] using h : ((a : Int) == (b : Int)) = true)
  omega
theorem below_then {a b c : World} (h1 : Below a.heap.size a b) (h2 : Below b.heap.size b c) : Below a.heap.size a c := h1.trans (h2.mono h1.size)

def LawP (w : World) (e : Ending) (w' : World) : Prop := e = .returned (.bool true) ∧ Below w.heap.size w w'

set_option maxRecDepth 100000 in
set_option maxHeartbeats 4000000 in
theorem law3_any {w : World} {D : Dat} {x1 x3 x4 x5 x6 x7 x8 : Sl} {R : Nat → Sl} (h : Raw w D x1 x3 x4 x5 x6 x7 x8 R) :
    Calls Try.prog 3 #[.slice x1.s x1.n x1.c, .slice x3.s x3.n x3.c, .slice x4.s x4.n x4.c, .slice x5.s x5.n x5.c, .slice x6.s x6.n x6.c, .slice x7.s x7.n x7.c, .slice x8.s x8.n x8.c] w (LawP w) := by
  have H := hid h
  have l1 := h.h1.has.len
  have l3 := h.h3.has.len
  have l4 := h.h4.has.len
  have l5 := h.h5.has.len
  have l6 := h.h6.has.len
  have l7 := h.h7.has.len
  have l8 := h.h8.has.len
  clear h
  go_enter Try.func3, Try.ntmps3
  go_wp2_with fail
  refine (bytes8_any x1 _ x3 x4 _ x5 _ x6 _ x7 x8 R _ w H.out.h1 l3 H.out.h4 H.out.h5 H.out.h6 l7 H.out.h8).mono ?_
  rintro e w1 ⟨b, rfl, hw⟩
  subst hw
  cases b with
  | false =>
    go_wp2
    go_ret
    exact ⟨rfl, Below.refl _ _⟩
  | true =>
    go_wp2_with fail
    refine (strs_any x1 _ _ H.out.h1).mono ?_
    rintro e w1 ⟨m1, rfl, hw, hm1⟩
    subst hw
    go_wp2_with fail
    refine (bools_any x3 _).mono ?_
    rintro e w1 ⟨m3, rfl, hw, hm3⟩
    subst hw
    go_wp2_with fail
    refine (strs_any x4 _ _ H.out.h4).mono ?_
    rintro e w1 ⟨m4, rfl, hw, hm4⟩
    subst hw
    go_wp2_with fail
    refine (strs_any x5 _ _ H.out.h5).mono ?_
    rintro e w1 ⟨m5, rfl, hw, hm5⟩
    subst hw
    go_wp2_with fail
    refine (strs_any x6 _ _ H.out.h6).mono ?_
    rintro e w1 ⟨m6, rfl, hw, hm6⟩
    subst hw
    go_wp2_with fail
    refine (ints_any x7 _).mono ?_
    rintro e w1 ⟨m7, rfl, hw, hm7⟩
    subst hw
    go_wp2_with fail
    refine (intss_rows x8 R _ _ H.out.h8).mono ?_
    rintro e w1 ⟨m8, rfl, hw, hm8, hrows⟩
    subst hw
    by_cases hs : (m1 : Int) + m3 + m4 + m5 + m6 + m7 + m8 > 1048576
    · clear hrows
      go_wp2
      go_ret
      exact ⟨rfl, Below.refl _ _⟩
    · have HRW := hid (hrows (by omega))
      clear hrows
      by_cases c1 : 4096 < x1.n
      · go_wp2
        go_ret
        exact ⟨rfl, Below.refl _ _⟩
      · by_cases c2 : 4096 < x7.n
        · go_wp2
          go_ret
          exact ⟨rfl, Below.refl _ _⟩
        · cases d3 : ((x3.n : Int) != (x1.n : Int)) with
          | true =>
            go_wp2
            go_ret
            exact ⟨rfl, Below.refl _ _⟩
          | false =>
            cases d4 : ((x4.n : Int) != (x1.n : Int)) with
            | true =>
              go_wp2
              go_ret
              exact ⟨rfl, Below.refl _ _⟩
            | false =>
              cases d5 : ((x5.n : Int) != (x7.n : Int)) with
              | true =>
                go_wp2
                go_ret
                exact ⟨rfl, Below.refl _ _⟩
              | false =>
                cases d6 : ((x6.n : Int) != (x7.n : Int)) with
                | true =>
                  go_wp2
                  go_ret
                  exact ⟨rfl, Below.refl _ _⟩
                | false =>
                  cases d8 : ((x8.n : Int) != (x7.n : Int)) with
                  | true =>
                    go_wp2
                    go_ret
                    exact ⟨rfl, Below.refl _ _⟩
                  | false =>
                    have q3 := hid (ne_false d3)
                    have q4 := hid (ne_false d4)
                    have q5 := hid (ne_false d5)
                    have q6 := hid (ne_false d6)
                    have q8 := hid (ne_false d8)
                    go_wp2_with fail
                    refine (fit_any x1.n x7 _ x8 R _ _ H.out.h7 H.out.h8 q8.out).mono ?_
                    rintro e w1 ⟨b, rfl, hw, hfit⟩
                    subst hw
                    cases b with
                    | false =>
                      go_wp2
                      go_ret
                      exact ⟨rfl, Below.refl _ _⟩
                    | true =>
                      have HF := hid (hfit rfl)
                      clear hfit d3 d4 d5 d6 d8
                      have HB0 := hid (Below.refl w1.heap.size w1)
                      go_wp2_with fail
                      refine (cloneStrs_any x1 _ _ (H.out.h1.below HB0.out).has (by have := q3.out; have := q4.out; have := q5.out; have := q6.out; have := q8.out; omega)).mono ?_
                      rintro e W1 ⟨y1, rfl, n1, k1, v1, b1, z1⟩
                      have HB1 := hid (below_then HB0.out b1)
                      have HY1 := hid v1
                      have N1 := hid n1
                      clear v1 b1 n1 k1 z1
                      go_wp2_with fail
                      refine (cloneBools_any x3 _ _ (H.out.h3.below HB1.out).has (by have := q3.out; have := q4.out; have := q5.out; have := q6.out; have := q8.out; omega)).mono ?_
                      rintro e W3 ⟨y3, rfl, n3, k3, v3, b3, z3⟩
                      have HB3 := hid (below_then HB1.out b3)
                      have HY3 := hid v3
                      have N3 := hid n3
                      replace HY1 := hid (HY1.out.below b3)
                      clear v3 b3 n3 k3 z3
                      go_wp2_with fail
                      refine (cloneStrs_any x4 _ _ (H.out.h4.below HB3.out).has (by have := q3.out; have := q4.out; have := q5.out; have := q6.out; have := q8.out; omega)).mono ?_
                      rintro e W4 ⟨y4, rfl, n4, k4, v4, b4, z4⟩
                      have HB4 := hid (below_then HB3.out b4)
                      have HY4 := hid v4
                      have N4 := hid n4
                      replace HY1 := hid (HY1.out.below b4)
                      replace HY3 := hid (HY3.out.below b4)
                      clear v4 b4 n4 k4 z4
                      go_wp2_with fail
                      refine (cloneStrs_any x5 _ _ (H.out.h5.below HB4.out).has (by have := q3.out; have := q4.out; have := q5.out; have := q6.out; have := q8.out; omega)).mono ?_
                      rintro e W5 ⟨y5, rfl, n5, k5, v5, b5, z5⟩
                      have HB5 := hid (below_then HB4.out b5)
                      have HY5 := hid v5
                      have N5 := hid n5
                      replace HY1 := hid (HY1.out.below b5)
                      replace HY3 := hid (HY3.out.below b5)
                      replace HY4 := hid (HY4.out.below b5)
                      clear v5 b5 n5 k5 z5
                      go_wp2_with fail
                      refine (cloneStrs_any x6 _ _ (H.out.h6.below HB5.out).has (by have := q3.out; have := q4.out; have := q5.out; have := q6.out; have := q8.out; omega)).mono ?_
                      rintro e W6 ⟨y6, rfl, n6, k6, v6, b6, z6⟩
                      have HB6 := hid (below_then HB5.out b6)
                      have HY6 := hid v6
                      have N6 := hid n6
                      replace HY1 := hid (HY1.out.below b6)
                      replace HY3 := hid (HY3.out.below b6)
                      replace HY4 := hid (HY4.out.below b6)
                      replace HY5 := hid (HY5.out.below b6)
                      clear v6 b6 n6 k6 z6
                      go_wp2_with fail
                      refine (cloneInts_any x7 _ _ (H.out.h7.below HB6.out).has (by have := q3.out; have := q4.out; have := q5.out; have := q6.out; have := q8.out; omega)).mono ?_
                      rintro e W7 ⟨y7, rfl, n7, k7, v7, b7, z7⟩
                      have HB7 := hid (below_then HB6.out b7)
                      have HY7 := hid v7
                      have N7 := hid n7
                      replace HY1 := hid (HY1.out.below b7)
                      replace HY3 := hid (HY3.out.below b7)
                      replace HY4 := hid (HY4.out.below b7)
                      replace HY5 := hid (HY5.out.below b7)
                      replace HY6 := hid (HY6.out.below b7)
                      clear v7 b7 n7 k7 z7
                      go_wp2_with fail
                      refine (cloneIntss_any x8 R _ _ (H.out.h8.below HB7.out) (by have := q8.out; omega) HRW.out).mono ?_
                      rintro e W8 ⟨y8, Y, rfl, n8, v8, r8, b8⟩
                      have HB8 := hid (below_then HB7.out b8)
                      replace HY1 := hid (HY1.out.below b8)
                      replace HY3 := hid (HY3.out.below b8)
                      replace HY4 := hid (HY4.out.below b8)
                      replace HY5 := hid (HY5.out.below b8)
                      replace HY6 := hid (HY6.out.below b8)
                      replace HY7 := hid (HY7.out.below b8)
                      have HA : Hid (Args W8 D y1 ⟨none, 0, 0, 0, 0⟩ y3 y4 y5 y6 y7 y8 Y) := by
                        have eK := H.out.K
                        have eN := H.out.n
                        have n1 := N1.out
                        have n3 := N3.out
                        have n4 := N4.out
                        have n5 := N5.out
                        have n6 := N6.out
                        have n7 := N7.out
                        have p3 := q3.out
                        have p4 := q4.out
                        have p5 := q5.out
                        have p6 := q6.out
                        have p8 := q8.out
                        exact ⟨⟨HY1.out, fun i hi => H.out.h1.size i (by omega)⟩, by omega, Or.inl ⟨rfl, H.out.given⟩, ⟨HY3.out⟩, by omega, ⟨HY4.out, fun i hi => H.out.h4.size i (by omega)⟩, by omega, by omega, ⟨HY5.out, fun i hi => H.out.h5.size i (by omega)⟩, by omega, ⟨HY6.out, fun i hi => H.out.h6.size i (by omega)⟩, by omega,
                          ⟨HY7.out, fun i hi => H.out.h7.bd i (by omega)⟩, by omega, v8, by omega, by omega, fun k hk => ⟨by rw [r8 k (by omega), H.out.nm], by rw [r8 k (by omega)]; exact HRW.out k (by omega)⟩, fun k hk => by rw [eN]; exact HF.out.mgr k (by omega), fun k hk j hj => by rw [eN]; exact HF.out.nm k (by omega) j (by rw [H.out.nm] at hj; exact hj)⟩
                      clear n8 v8 r8 b8
                      go_wp2_with fail
                      refine (placeB_any (x2 := ⟨none, 0, 0, 0, 0⟩) HA.out).mono ?_
                      rintro e W9 ⟨dB, s, c, B, he, hdr, hown, hb⟩
                      have HB9 := hid (below_then HB8.out hb)
                      have HA9 := hid (HA.out.below hb)
                      rw [H.out.n] at he hdr
                      subst he
                      have HDR := hid hdr
                      have EN := hid H.out.n
                      clear hdr hown hb
                      go_wp2
                      have HS0 : Hid (Args W9 D y1 ⟨none, 0, 0, 0, 0⟩ y3 y4 y5 y6 y7 y8 Y ∧ (W9.rowIs dB 3 x1.n fun j => .int .i64 (dept D j)) ∧ Below w1.heap.size w1 W9) := ⟨HA9.out, HDR.out, HB9.out⟩
                      clear HA HA9 HDR HB9
                      go_loopw [18] (fun i wr => ∃ i' : Nat, i' ≤ x1.n ∧ i = .int .i64 i' ∧ Args wr D y1 ⟨none, 0, 0, 0, 0⟩ y3 y4 y5 y6 y7 y8 Y ∧ (wr.rowIs dB 3 x1.n fun j => .int .i64 (dept D j)) ∧ Below w1.heap.size w1 wr) (fun i _ => x1.n - (intOf i).toNat)
                      case atStart => exact ⟨0, Nat.zero_le _, rfl, HS0.out⟩
                      case round =>
                        obtain ⟨i, hi, rfl, hst⟩ := hrel
                        have HS := hid hst
                        have HSN : Hid (∀ n, Args (wr.drewN n) D y1 ⟨none, 0, 0, 0, 0⟩ y3 y4 y5 y6 y7 y8 Y ∧ ((wr.drewN n).rowIs dB 3 x1.n fun j => .int .i64 (dept D j)) ∧ Below w1.heap.size w1 (wr.drewN n)) := fun n => ⟨hst.1.below (Qxb6601102a.Below.drawn (Below.refl _ _) n), hst.2.1, Qxb6601102a.Below.drawn hst.2.2 n⟩
                        clear hst
                        by_cases hlt : i < x1.n
                        · have hdc := HS.out.2.1.cell hlt
                          have HMo := hid fun n => model_any (HSN.out n).1 i (by rw [EN.out]; exact hlt)
                          generalize dept D i = v at hdc HMo
                          go_wp2
                          go_quiet ((go_at_call 19; exact Calls.quiet_of (HMo.out _)))
                          go_wp2
                          go_roundw
                          case rel => exact ⟨i + 1, by omega, by go_num, HSN.out _⟩
                          case measure => simp [intOf]; omega
                        · go_wp2
                          go_ret
                          exact ⟨rfl, HS.out.2.2⟩
end Go.Proofs.Qxb6601102a
