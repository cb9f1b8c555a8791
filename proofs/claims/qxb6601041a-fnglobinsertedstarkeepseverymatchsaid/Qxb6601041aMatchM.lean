/-
  Seat b6601041a: (*glob).matches of a glob of two runs or more.
-/
import Derived.Test.Qxb6601041aMatchW
namespace Go.Proofs.Qxb6601041a
open Go.RowKit

def KW (n : Nat) (V : Nat → Int) (W : Nat → Bool) (rl : RunD) (pos : Nat) : Prop := ∃ s1, Good rl.m rl.C n V W (pos + rl.gap) false true s1
def KN (n : Nat) (V : Nat → Int) (rl : RunD) (pos : Nat) : Prop := ∃ s1, pos + rl.gap ≤ s1 ∧ Fit rl.m rl.C V s1 ∧ s1 + rl.m = n
theorem KW_anti {n : Nat} {V : Nat → Int} {W : Nat → Bool} {rl : RunD} (a b : Nat) (hab : a ≤ b) (h : KW n V W rl b) : KW n V W rl a := by
  obtain ⟨s, h1⟩ := h
  exact ⟨s, ⟨by have := h1.fr; omega, h1.le, h1.st, h1.en, h1.fit⟩⟩
theorem KN_anti {n : Nat} {V : Nat → Int} {rl : RunD} (a b : Nat) (hab : a ≤ b) (h : KN n V rl b) : KN n V rl a := by
  obtain ⟨s, h1, h2⟩ := h
  exact ⟨s, by omega, h2⟩
theorem KW_le {n : Nat} {V : Nat → Int} {W : Nat → Bool} {rl : RunD} (a : Nat) (h : KW n V W rl a) : a ≤ n := by
  obtain ⟨s, h1⟩ := h
  have := h1.fr
  have := h1.le
  omega
theorem KN_le {n : Nat} {V : Nat → Int} {rl : RunD} (a : Nat) (h : KN n V rl a) : a ≤ n := by
  obtain ⟨s, h1, _, h2⟩ := h
  omega

def AccMore (words : Bool) (n : Nat) (V : Nat → Int) (W : Nat → Bool) (r0 : RunD) (mid : List RunD) (rl : RunD) : Prop :=
  if words = true then ∃ s, Good r0.m r0.C n V W 0 true false s ∧ chain V (KW n V W rl) mid (s + r0.m) else r0.m ≤ n ∧ Fit r0.m r0.C V 0 ∧ chain V (KN n V rl) mid r0.m

theorem more_first {n : Nat} {V : Nat → Int} {W : Nat → Bool} {r0 : RunD} {mid : List RunD} {rl : RunD} {s : Nat} (hg : Good r0.m r0.C n V W 0 true false s) (hmin : ∀ s', Good r0.m r0.C n V W 0 true false s' → s ≤ s') : AccMore true n V W r0 mid rl ↔ chain V (KW n V W rl) mid (s + r0.m) := by
  constructor
  · rintro ⟨s', h1, h2⟩
    have := hmin s' h1
    exact chain_anti V KW_anti mid _ _ (by omega) h2
  · exact fun h => ⟨s, hg, h⟩

theorem drop_cons (l : List RunV) (j : Nat) (hj : j < l.length) : l.drop j = l[j] :: l.drop (j + 1) := List.drop_eq_getElem_cons hj

set_option maxRecDepth 100000 in
set_option maxHeartbeats 4000000 in
theorem matches_w {gb : Nat} {r0 rl : RunV} {mid : List RunV} {fb : Nat} {y z : Sl} {V : Nat → Int} {W : Nat → Bool} {vc vl vm vs : Value} {w : World} (hM : MW gb (.bool true) (r0 :: (mid ++ [rl])) fb y z V W vc vl vm vs w) (hok : ∀ r ∈ r0 :: (mid ++ [rl]), ROk r) (hb : Bnd (r0 :: (mid ++ [rl]))) :
    Calls Try.prog 35 #[.pointer (some ⟨gb, 0, none⟩), .pointer (some ⟨fb, 0, none⟩)] w (MatP fb y z V W (AccMore true y.n V W (rd r0) (mid.map rd) (rd rl)) w) := by
  have HM := hid hM
  obtain ⟨sv, hg, hf, hvm⟩ := hM
  have hlt := hg.lt
  have hflt := hf.lt
  have hyb := hf.big
  have hok0 := hok r0 (by simp)
  have hokl := hok rl (by simp)
  have hrb0 := hok0.len
  have hrbl := hokl.len
  have hgl := hokl.gap
  obtain ⟨ss, sc, rfl⟩ := owns_form hg.hs
  have c3 := hg.cell.2.2.2
  obtain ⟨N1, hN1⟩ : ∃ N1, N1 = mid.length + 1 := ⟨_, rfl⟩
  have hlenR : (r0 :: (mid ++ [rl])).length = N1 + 1 := by rw [hN1]; simp
  rw [hlenR] at c3
  have hmb : N1 + 1 ≤ 1048576 := by have := hb.b4; omega
  have HN1 := hid hN1
  have hN1p : 0 < N1 := by omega
  have hnb : (((N1 : Int) + 1) == 1) = false := by simp only [beq_eq_false_iff_ne, ne_eq]; omega
  obtain ⟨x, l, m, wd, hwd, hs, hrun⟩ := mrun HM.out (A := []) (B := mid ++ [rl]) rfl hok0 hb 0 rfl
  have HR := hid hrun
  have HR2 : Hid (∀ w1, Below w.heap.size w w1 → ∃ (x l m : Sl) (wd : Nat), Hid (wd = (x.n + 63) / 64) ∧ Hid (RunSl w1 vc vl vm rl x l m) ∧ Hid (Calls Try.prog 38 #[.pointer (some ⟨gb, 0, none⟩), .int .i64 (N1 : Nat)] w1 fun e w' => e = .returned (.agg #[.int .i64 (rl.gap : Nat), .slice x.s x.n x.c, .int .i64 (wd : Nat), .slice l.s l.n l.c, .slice m.s m.n m.c]) ∧ Below w1.heap.size w1 w')) := fun w1 hb1 => by
    obtain ⟨x, l, m, wd, h1, h2, h3⟩ := mrun (HM.out.below hb1) (A := r0 :: mid) (B := []) (r := rl) (by simp) hokl hb N1 (by rw [hN1]; simp)
    exact ⟨x, l, m, wd, h1, h2, h3⟩
  have HS := hid hs
  have HWD := hid hwd
  have HOK := hid hok
  have HBB := hid hb
  have OK0 := hid hok0
  have OKL := hid hokl
  clear hg hf hvm hrun hs hwd hlenR hN1 hok hb hok0 hokl
  go_enter Try.func35, Try.ntmps35
  go_upto_region 3 with (first | (go_at_call 38; refine hr2.out.mono ?_; rintro e w2 ⟨rfl, hb2⟩) | (go_at_call 38; refine HR.out.mono ?_; rintro e w1 ⟨rfl, hb1⟩; obtain ⟨x2, l2, m2, wd2, hwd2, hs2, hr2⟩ := HR2.out w1 hb1))
  have hB3 : Below w.heap.size w ((w2.alloc (.cells #[.int .i64 (r0.gap : Nat), .slice x.s x.n x.c, .int .i64 (wd : Nat), .slice l.s l.n l.c, .slice m.s m.n m.c] 56)).alloc (.cells #[.int .i64 (rl.gap : Nat), .slice x2.s x2.n x2.c, .int .i64 (wd2 : Nat), .slice l2.s l2.n l2.c, .slice m2.s m2.n m2.c] 56)) := by
    have h1 := hb1.size
    have h2 := hb2.size
    exact ((hb1.trans (hb2.mono h1)).alloc (by omega) _).alloc (by simp; omega) _
  have hB13 : Below w1.heap.size w1 ((w2.alloc (.cells #[.int .i64 (r0.gap : Nat), .slice x.s x.n x.c, .int .i64 (wd : Nat), .slice l.s l.n l.c, .slice m.s m.n m.c] 56)).alloc (.cells #[.int .i64 (rl.gap : Nat), .slice x2.s x2.n x2.c, .int .i64 (wd2 : Nat), .slice l2.s l2.n l2.c, .slice m2.s m2.n m2.c] 56)) := by
    have h2 := hb2.size
    exact (hb2.alloc (by omega) _).alloc (by simp; omega) _
  have hblk : ((w2.alloc (.cells #[.int .i64 (r0.gap : Nat), .slice x.s x.n x.c, .int .i64 (wd : Nat), .slice l.s l.n l.c, .slice m.s m.n m.c] 56)).alloc (.cells #[.int .i64 (rl.gap : Nat), .slice x2.s x2.n x2.c, .int .i64 (wd2 : Nat), .slice l2.s l2.n l2.c, .slice m2.s m2.n m2.c] 56)).heap[w2.heap.size]? = some (.cells (runCells r0 x l m) 56 (0, 0)) := by
    rw [Below.heap_alloc _ _ _ (by simp), heap_alloc_new, HWD.out]
    rfl
  have hblk2 : ((w2.alloc (.cells #[.int .i64 (r0.gap : Nat), .slice x.s x.n x.c, .int .i64 (wd : Nat), .slice l.s l.n l.c, .slice m.s m.n m.c] 56)).alloc (.cells #[.int .i64 (rl.gap : Nat), .slice x2.s x2.n x2.c, .int .i64 (wd2 : Nat), .slice l2.s l2.n l2.c, .slice m2.s m2.n m2.c] 56)).heap[w2.heap.size + 1]? = some (.cells (runCells rl x2 l2 m2) 56 (0, 0)) := by
    have := heap_alloc_new (w2.alloc (.cells #[.int .i64 (r0.gap : Nat), .slice x.s x.n x.c, .int .i64 (wd : Nat), .slice l.s l.n l.c, .slice m.s m.n m.c] 56)) (.cells #[.int .i64 (rl.gap : Nat), .slice x2.s x2.n x2.c, .int .i64 (wd2 : Nat), .slice l2.s l2.n l2.c, .slice m2.s m2.n m2.c] 56)
    rw [World.size_alloc, hwd2.out] at this
    rw [hwd2.out]
    exact this
  have HXN := hid HS.out.xn
  have HXN2 := hid hs2.out.xn
  have HM1 := hid (HM.out.below hb1)
  revert hB3 hB13 hblk hblk2
  generalize World.alloc _ _ = W3
  generalize w2.heap.size = rb
  intro hB3 hB13 hblk hblk2
  have hM3 := HM.out.below hB3
  have HM3 := hid hM3
  have HS3 := hid (HM.out.runSl (KeptM.of_below HM.out hB3) HS.out)
  have HS3l := hid (HM1.out.runSl (KeptM.of_below HM1.out hB13) hs2.out)
  have HBLK := hid hblk
  have HBLK2 := hid hblk2
  have q4 : W3.cell? ⟨gb, 4, none⟩ = some (.bool true) := by obtain ⟨_, h1, _⟩ := hM3; simp [World.cell?, h1.blk]
  have qr : W3.cell? ⟨rb, 1, none⟩ = some (.slice x.s x.n x.c) := by simp [World.cell?, hblk, runCells]
  have HBF : Hid (Below fb w W3) := hB3.mono (by omega)
  clear hM3 hB3 hB13 hblk hblk2 hb1 hb2 c3 hwd2 hs2 hr2 HM1 HR HR2
  have HF := hid (mfind HM3.out OK0.out HS3.out HBLK.out 0 true false)
  go_upto_region 11 with (go_at_call 39; refine HF.out.mono ?_; rintro e w4 ⟨k, ok, rfl, h1, h2, h3, h4⟩)
  cases ok with
  | false =>
    have hno : ¬ AccMore true y.n V W (rd r0) (mid.map rd) (rd rl) := by
      rintro ⟨s, h5, _⟩
      have := (found_iff h1).2 ⟨s, h5⟩
      cases this
    have HNO := hid hno
    have H2 := hid h2
    have H4 := hid (HBF.out.trans h4)
    clear hno h1 h2 h3 h4
    go_wp2
    go_ret
    exact MatP.mk (by simp [HNO.out]) H2.out H4.out
  | true =>
    obtain ⟨pos, hk, hacc, hpos⟩ : ∃ pos : Nat, k = (pos : Int) ∧ (AccMore true y.n V W (rd r0) (mid.map rd) (rd rl) ↔ chain V (KW y.n V W (rd rl)) (mid.map rd) pos) ∧ pos ≤ y.n := by
      rcases h1 with ⟨_, s, h5, h6, h7⟩ | ⟨h5, _⟩
      · exact ⟨s + r0.C.length, by omega, more_first (r0 := rd r0) h5 h7, h5.le⟩
      · cases h5
    subst hk
    have HACC := hid hacc
    have H2 := hid h2
    have H3 := hid h3
    have H4 := hid (HBF.out.trans h4)
    clear hacc h1 h2 h3 h4 HF
    have q4' : w4.cell? ⟨gb, 4, none⟩ = some (.bool true) := by obtain ⟨_, h1, _⟩ := H2.out; simp [World.cell?, h1.blk]
    obtain ⟨Acc, hAE⟩ : ∃ Acc : Prop, Acc = AccMore true y.n V W (rd r0) (mid.map rd) (rd rl) := ⟨_, rfl⟩
    rw [← hAE] at HACC
    have HAE := hid hAE
    clear hAE
    go_wp2
    go_loopw [10, 13] (fun a b wr => ∃ pos i : Nat, a = .int .i64 pos ∧ b = .int .i64 i ∧ 1 ≤ i ∧ i ≤ N1 ∧ pos ≤ y.n ∧ Hid (Acc ↔ chain V (KW y.n V W (rd rl)) ((mid.map rd).drop (i - 1)) pos) ∧ Hid (MW gb (.bool true) (r0 :: (mid ++ [rl])) fb y z V W vc vl vm (.slice ss (r0 :: (mid ++ [rl])).length sc) wr) ∧ Hid (KeptM vm W3 wr) ∧ Hid (Below fb w wr)) (fun _ b _ => N1 - (intOf b).toNat)
    case atStart => exact ⟨_, 1, rfl, rfl, Nat.le_refl _, hN1p, hpos, HACC, H2, H3, H4⟩
    case round =>
      obtain ⟨pos, i, rfl, rfl, hi1, hiN, hpos', HACi, HMi, HKi, HBi⟩ := hrel
      by_cases hlt' : i < N1
      · have hjm : i - 1 < mid.length := by have := HN1.out; omega
        have hmemr : mid[i - 1] ∈ r0 :: (mid ++ [rl]) := by simp
        obtain ⟨r, hr⟩ : ∃ r, r = mid[i - 1] := ⟨_, rfl⟩
        rw [← hr] at hmemr
        have OKR := hid (HOK.out r hmemr)
        have hRR : r0 :: (mid ++ [rl]) = (r0 :: mid.take (i - 1)) ++ r :: (mid.drop i ++ [rl]) := by
          have h5 := List.take_append_drop (i - 1) mid
          rw [drop_cons mid (i - 1) hjm, ← hr, show i - 1 + 1 = i by omega] at h5
          conv => lhs; rw [← h5]
          simp
        have hdrop : (mid.map rd).drop (i - 1) = rd r :: (mid.map rd).drop i := by
          rw [← List.map_drop, drop_cons mid (i - 1) hjm, ← hr, show i - 1 + 1 = i by omega, List.map_cons, List.map_drop]
        obtain ⟨xr, lr, mr, wdr, hwdr, hsr, hrunr⟩ := mrun HMi.out hRR OKR.out HBB.out i (by simp; omega)
        have HRr := hid hrunr
        have HSr := hid hsr
        have HWr := hid hwdr
        have HDR := hid hdrop
        have hgr := OKR.out.gap
        clear hmemr hr hRR hdrop hrunr hsr hwdr
        go_upto_region 20 with (go_at_call 38; refine HRr.out.mono ?_; rintro e w5 ⟨rfl, hb5⟩)
        have hB6 : Below wr.heap.size wr (w5.alloc (.cells #[.int .i64 (r.gap : Nat), .slice xr.s xr.n xr.c, .int .i64 (wdr : Nat), .slice lr.s lr.n lr.c, .slice mr.s mr.n mr.c] 56)) := hb5.alloc hb5.size _
        have hblk6 : (w5.alloc (.cells #[.int .i64 (r.gap : Nat), .slice xr.s xr.n xr.c, .int .i64 (wdr : Nat), .slice lr.s lr.n lr.c, .slice mr.s mr.n mr.c] 56)).heap[w5.heap.size]? = some (.cells (runCells r xr lr mr) 56 (0, 0)) := by
          rw [heap_alloc_new, HWr.out]
          rfl
        clear hb5 HRr
        revert hB6 hblk6
        generalize World.alloc _ _ = W6
        generalize w5.heap.size = rbr
        intro hB6 hblk6
        have HM6 := hid (HMi.out.below hB6)
        have HK6 := hid (HKi.out.trans (KeptM.of_below HMi.out hB6))
        have HS6 := hid (HMi.out.runSl (KeptM.of_below HMi.out hB6) HSr.out)
        have hfl : fb < wr.heap.size := by obtain ⟨_, _, h2, _⟩ := HMi.out; exact h2.lt
        have HB6 := hid (HBi.out.trans (hB6.mono (by omega)))
        have c60 : W6.cell? ⟨rbr, 0, none⟩ = some (.int .i64 (r.gap : Nat)) := by simp [World.cell?, hblk6, runCells]
        have hfr := mfind HM6.out OKR.out HS6.out hblk6 (pos + r.gap) false false
        rw [Int.natCast_add] at hfr
        have HFr := hid hfr
        clear hfr hB6 hblk6
        go_upto_region 21 with (go_at_call 39; refine HFr.out.mono ?_; rintro e w7 ⟨k7, ok7, rfl, f1, f2, f3, f4⟩)
        have F2 := hid f2
        have F3 := hid (HK6.out.trans f3)
        have F4 := hid (HB6.out.trans f4)
        clear f2 f3 f4 HFr
        cases ok7 with
        | false =>
          have hno : ¬ Acc := by
            rw [HACi.out, HDR.out]
            refine chain_none (W := W) V KW_le _ _ _ ?_
            rcases f1 with ⟨h5, _⟩ | ⟨_, _, h5⟩
            · cases h5
            · exact h5
          have HNO := hid hno
          clear hno f1
          go_wp2
          go_ret
          exact MatP.mk (by rw [← HAE.out]; simp [HNO.out]) F2.out F4.out
        | true =>
          obtain ⟨pos7, hk7, hacc7, hpos7⟩ : ∃ pos7 : Nat, k7 = (pos7 : Int) ∧ (Acc ↔ chain V (KW y.n V W (rd rl)) ((mid.map rd).drop i) pos7) ∧ pos7 ≤ y.n := by
            rcases f1 with ⟨_, s, h5, h6, h7⟩ | ⟨h5, _⟩
            · refine ⟨s + r.C.length, by omega, ?_, h5.le⟩
              rw [HACi.out, HDR.out]
              exact chain_first (W := W) V KW_anti KW_le (rd r) _ _ h5 h7
            · cases h5
          subst hk7
          have HAC7 := hid hacc7
          clear hacc7 f1
          go_wp2
          go_roundw
          case rel => exact ⟨pos7, i + 1, rfl, by go_num, by omega, by omega, hpos7, by rw [Nat.add_sub_cancel]; exact HAC7, F2, F3, F4⟩
          case measure => simp [intOf]; omega
      · obtain rfl : i = N1 := by omega
        have hK : Acc ↔ (KW y.n V W (rd rl)) pos := by
          have h5 := HACi.out
          rw [List.drop_eq_nil_of_le (by have := HN1.out; simp; omega)] at h5
          exact h5
        have HKK := hid hK
        have hblkl := HKi.out.cells _ _ _ HBLK2.out (by decide) (by decide)
        have HSl := hid (HM3.out.runSl HKi.out HS3l.out)
        have q4l : wr.cell? ⟨gb, 4, none⟩ = some (.bool true) := by obtain ⟨_, h1, _⟩ := HMi.out; simp [World.cell?, h1.blk]
        have c0l : wr.cell? ⟨rb + 1, 0, none⟩ = some (.int .i64 (rl.gap : Nat)) := by simp [World.cell?, hblkl, runCells]
        have HBLl := hid hblkl
        clear hK hlt' hiN hi1
        have hfl := mfind HMi.out OKL.out HSl.out HBLl.out (pos + rl.gap) false true
        rw [Int.natCast_add] at hfl
        have HFl := hid hfl
        clear hfl hblkl
        go_upto_region 26 with (go_at_call 39; refine HFl.out.mono ?_; rintro e w8 ⟨k8, ok8, rfl, f1, f2, f3, f4⟩)
        have F1 := hid (found_iff f1)
        have F2 := hid f2
        have F4 := hid (HBi.out.trans f4)
        clear f1 f2 f3 f4 HFl
        go_wp2
        go_ret
        exact MatP.mk (by rw [← HAE.out]; exact F1.out.trans HKK.out.symm) F2.out F4.out

end Go.Proofs.Qxb6601041a
