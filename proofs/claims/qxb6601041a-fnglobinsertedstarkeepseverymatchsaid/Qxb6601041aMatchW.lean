/-
  Seat b6601041a: (*glob).matches, walked.
-/
import Derived.Test.Qxb6601041aMatch
import Derived.Deep.RegionWith
import Derived.Deep.Cut
import Derived.Deep.CutRange
namespace Go.Proofs.Qxb6601041a
open Go.RowKit

def rd (r : RunV) : RunD := ⟨r.gap, r.C.length, fun p => r.C[p]!⟩

structure Bnd (R : List RunV) : Prop where
  b1 : (allC R).length ≤ 1048576
  b2 : (allL R).length ≤ 1048576
  b3 : (allM R).length ≤ 67108864
  b4 : R.length ≤ 1048576

/-- The run at |A|: its slices, its value. -/
theorem mrun {gb : Nat} {wv : Value} {R : List RunV} {fb : Nat} {y z : Sl} {V : Nat → Int} {W : Nat → Bool} {vc vl vm vs : Value} {w : World} (hM : MW gb wv R fb y z V W vc vl vm vs w) {A B : List RunV} {r : RunV} (hR : R = A ++ r :: B) (hok : ROk r) (hb : Bnd R) (i : Nat) (hi : i = A.length) :
    ∃ (x l m : Sl) (wd : Nat), wd = (x.n + 63) / 64 ∧ RunSl w vc vl vm r x l m ∧ Calls Try.prog 38 #[.pointer (some ⟨gb, 0, none⟩), .int .i64 (i : Nat)] w fun e w' => e = .returned (.agg #[.int .i64 (r.gap : Nat), .slice x.s x.n x.c, .int .i64 (wd : Nat), .slice l.s l.n l.c, .slice m.s m.n m.c]) ∧ Below w.heap.size w w' := by
  obtain ⟨sv, h, hf, hvm⟩ := hM
  obtain ⟨x, l, m, hs, hrun⟩ := run_any h hR hok hb.b1 hb.b2 hb.b3 hb.b4
  refine ⟨x, l, m, _, rfl, hs, ?_⟩
  rw [hi]
  refine hrun.mono ?_
  rintro e w' ⟨h1, h2⟩
  exact ⟨by rw [h1]; rfl, h2⟩

def MatP (fb : Nat) (y z : Sl) (V : Nat → Int) (W : Nat → Bool) (Acc : Prop) (w : World) (e : Ending) (w' : World) : Prop :=
  ∃ b : Bool, e = .returned (.bool b) ∧ (b = true ↔ Acc) ∧ (∃ sv', FoldB w' fb y z V W sv') ∧ Below fb w w'
theorem MatP.mk {fb : Nat} {y z : Sl} {V : Nat → Int} {W : Nat → Bool} {Acc : Prop} {w w' : World} {b : Bool} {gb : Nat} {wv : Value} {R : List RunV} {vc vl vm vs : Value} (h : b = true ↔ Acc) (hM : MW gb wv R fb y z V W vc vl vm vs w') (hb : Below fb w w') : MatP fb y z V W Acc w (.returned (.bool b)) w' := by
  obtain ⟨sv, _, h2, _⟩ := hM
  exact ⟨b, rfl, h, ⟨sv, h2⟩, hb⟩

def AccOne (words : Bool) (n : Nat) (V : Nat → Int) (W : Nat → Bool) (r : RunD) : Prop :=
  if words = true then ∃ s, Good r.m r.C n V W 0 true true s else n = r.m ∧ Fit r.m r.C V 0

theorem MW.drewN {gb : Nat} {wv : Value} {R : List RunV} {fb : Nat} {y z : Sl} {V : Nat → Int} {W : Nat → Bool} {vc vl vm vs : Value} {w : World} (h : MW gb wv R fb y z V W vc vl vm vs w) (q : Nat) : MW gb wv R fb y z V W vc vl vm vs (w.drewN q) := h.below ⟨rfl, rfl, rfl, Nat.le_refl _, fun _ _ => rfl⟩

theorem found_iff {m : Nat} {C : Nat → Int} {n : Nat} {V : Nat → Int} {W : Nat → Bool} {fr : Nat} {st en : Bool} {e : Int} {ok : Bool} (h : Found m C n V W fr st en e ok) : ok = true ↔ ∃ s, Good m C n V W fr st en s := by
  rcases h with ⟨rfl, s, h1, _⟩ | ⟨rfl, _, h1⟩
  · simp only [true_iff]
    exact ⟨s, h1⟩
  · simp only [Bool.false_eq_true, false_iff]
    rintro ⟨s, h2⟩
    exact h1 s h2

set_option maxRecDepth 100000 in
set_option maxHeartbeats 2000000 in
theorem matches_one {gb : Nat} {words : Bool} {r : RunV} {fb : Nat} {y z : Sl} {V : Nat → Int} {W : Nat → Bool} {vc vl vm vs : Value} {w : World} (hM : MW gb (.bool words) [r] fb y z V W vc vl vm vs w) (hok : ROk r) (hb : Bnd [r]) :
    Calls Try.prog 35 #[.pointer (some ⟨gb, 0, none⟩), .pointer (some ⟨fb, 0, none⟩)] w (MatP fb y z V W (AccOne words y.n V W (rd r)) w) := by
  have HM := hid hM
  obtain ⟨sv, hg, hf, hvm⟩ := hM
  have hlt := hg.lt
  have hflt := hf.lt
  have hyb := hf.big
  have hrb := hok.len
  obtain ⟨ss, sc, rfl⟩ := owns_form hg.hs
  have c3 := hg.cell.2.2.2
  simp only [List.length_singleton] at c3
  obtain ⟨x, l, m, wd, hwd, hs, hrun⟩ := mrun HM.out (A := []) (B := []) rfl hok hb 0 rfl
  have HR := hid hrun
  have HR2 : Hid (∀ w1, Below w.heap.size w w1 → ∃ (x l m : Sl) (wd : Nat), wd = (x.n + 63) / 64 ∧ RunSl w1 vc vl vm r x l m ∧ Calls Try.prog 38 #[.pointer (some ⟨gb, 0, none⟩), .int .i64 0] w1 fun e w' => e = .returned (.agg #[.int .i64 (r.gap : Nat), .slice x.s x.n x.c, .int .i64 (wd : Nat), .slice l.s l.n l.c, .slice m.s m.n m.c]) ∧ Below w1.heap.size w1 w') := fun w1 hb1 => mrun (HM.out.below hb1) (A := []) (B := []) rfl hok hb 0 rfl
  have HS := hid hs
  have HWD := hid hwd
  clear hg hf hvm hrun hs hwd
  go_enter Try.func35, Try.ntmps35
  go_upto_region 3 with (first | (go_at_call 38; refine HR.out.mono ?_; rintro e w1 ⟨rfl, hb1⟩; obtain ⟨x2, l2, m2, wd2, hwd2, hs2, hr2⟩ := HR2.out w1 hb1) | (go_at_call 38; refine hr2.mono ?_; rintro e w2 ⟨rfl, hb2⟩))
  have hB3 : Below w.heap.size w ((w2.alloc (.cells #[.int .i64 (r.gap : Nat), .slice x.s x.n x.c, .int .i64 (wd : Nat), .slice l.s l.n l.c, .slice m.s m.n m.c] 56)).alloc (.cells #[.int .i64 (r.gap : Nat), .slice x2.s x2.n x2.c, .int .i64 (((x2.n : Int) + 63) / 64), .slice l2.s l2.n l2.c, .slice m2.s m2.n m2.c] 56)) := by
    have h1 := hb1.size
    have h2 := hb2.size
    exact ((hb1.trans (hb2.mono h1)).alloc (by omega) _).alloc (by simp; omega) _
  have hblk : ((w2.alloc (.cells #[.int .i64 (r.gap : Nat), .slice x.s x.n x.c, .int .i64 (wd : Nat), .slice l.s l.n l.c, .slice m.s m.n m.c] 56)).alloc (.cells #[.int .i64 (r.gap : Nat), .slice x2.s x2.n x2.c, .int .i64 (((x2.n : Int) + 63) / 64), .slice l2.s l2.n l2.c, .slice m2.s m2.n m2.c] 56)).heap[w2.heap.size]? = some (.cells (runCells r x l m) 56 (0, 0)) := by
    rw [Below.heap_alloc _ _ _ (by simp), heap_alloc_new, HWD.out]
    rfl
  have HXN := hid HS.out.xn
  clear hwd2 hs2 hr2
  revert hB3 hblk
  generalize World.alloc _ _ = W3
  generalize w2.heap.size = rb
  intro hB3 hblk
  have hM3 := HM.out.below hB3
  have HM3 := hid hM3
  have HB3 := hid hB3
  have HS3 := hid (HM.out.runSl (KeptM.of_below HM.out hB3) HS.out)
  have HBLK := hid hblk
  have q4 : W3.cell? ⟨gb, 4, none⟩ = some (.bool words) := by obtain ⟨_, h1, _⟩ := hM3; simp [World.cell?, h1.blk]
  have q0 : W3.cell? ⟨fb, 0, none⟩ = some (.slice y.s y.n y.c) := by obtain ⟨_, _, h2, _⟩ := hM3; simp [World.cell?, h2.blk]
  have qr : W3.cell? ⟨rb, 1, none⟩ = some (.slice x.s x.n x.c) := by simp [World.cell?, hblk, runCells]
  have HBF : Hid (Below fb w W3) := hB3.mono (by omega)
  clear hM3 hB3 hblk hb1 hb2 c3
  cases words with
  | true =>
    have HF := hid (mfind HM3.out hok HS3.out HBLK.out 0 true true)
    go_upto_region 6 with (go_at_call 39; refine HF.out.mono ?_; rintro e w4 ⟨k, ok, rfl, h1, h2, h3, h4⟩)
    have H1 := hid h1
    have H2 := hid h2
    have H4 := hid (HBF.out.trans h4)
    clear h1 h2 h3 h4
    go_wp2
    go_ret
    exact MatP.mk (found_iff H1.out) H2.out H4.out
  | false =>
    go_upto_region 7 with fail
    by_cases hn : y.n = x.n
    · have hnb : ((y.n : Int) == (x.n : Int)) = true := by simp [hn]
      have HN := hid hn
      clear hn
      have HA : Hid (∀ q, Calls Try.prog 43 #[.pointer (some ⟨rb, 0, none⟩), .pointer (some ⟨fb, 0, none⟩), .int .i64 0] (W3.drewN q) (AtP (W3.drewN q) y.n r.C.length (fun p => r.C[p]!) V 0)) := fun q =>
        mat (HM3.out.drewN q) hok (HM3.out.runSl (KeptM.of_below HM3.out (w' := W3.drewN q) ⟨rfl, rfl, rfl, Nat.le_refl _, fun _ _ => rfl⟩) HS3.out) HBLK.out 0 (by omega)
      go_region_with (go_at_call 43; refine (HA.out 1).mono ?_; rintro e w4 ⟨b, q, rfl, rfl, hb'⟩)
      all_goals (go_wp2; go_ret; exact MatP.mk (by
        rw [hb']
        show _ ↔ y.n = r.C.length ∧ _
        have := HN.out
        rw [HXN.out] at this
        constructor
        · exact fun h => ⟨this, h.2⟩
        · exact fun h => ⟨by omega, h.2⟩) (HM3.out.drewN _) (Below.drawn HBF.out _))
    · have hnb : ((y.n : Int) == (x.n : Int)) = false := by simp only [beq_eq_false_iff_ne, ne_eq]; omega
      go_quiet (fail)
      go_wp2
      go_ret
      exact MatP.mk (by
        show _ ↔ y.n = r.C.length ∧ _
        rw [← HXN.out]
        simp [hn]) (HM3.out.drewN _) (Below.drawn HBF.out _)
end Go.Proofs.Qxb6601041a
