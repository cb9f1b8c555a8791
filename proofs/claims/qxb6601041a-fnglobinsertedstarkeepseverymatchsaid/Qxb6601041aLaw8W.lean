/-
  Seat b6601041a: THE LAW FnRunFindWordEdgesOnlyDelay, walked.
-/
import Derived.Test.Qxb6601041aKit
namespace Go.Proofs.Qxb6601041a
open Go.RowKit

def TrueP (w : World) (e : Ending) (w' : World) : Prop := e = .returned (.bool true) ∧ Below w.heap.size w w'
theorem TrueP.mk {w w' : World} {b : Bool} (hb : b = true) (h : Below w.heap.size w w') : TrueP w (.returned (.bool b)) w' := ⟨by rw [hb], h⟩

/-- A copy: as many elements, in new memory. -/
def CopyQ (w : World) (n : Nat) (V : Nat → Value) (e : Ending) (w' : World) : Prop :=
  ∃ s b off, e = .returned (.slice s n n) ∧ (⟨s, n, n, b, off⟩ : Sl).Has w' V ∧ Below w.heap.size w w' ∧ (0 < n → b < w'.heap.size)
theorem CopyP.q {w : World} {n : Nat} {V : Nat → Value} {e : Ending} {w' : World} (h : CopyP w n V e w') : CopyQ w n V e w' := by
  obtain ⟨⟨s, k, c, b, off⟩, h1, h2, h3, h4, h5, _⟩ := h
  simp only [] at h1 h2 h3
  subst h2
  subst h3
  exact ⟨s, b, off, h1, h4, h5, fun h0 => h4.blk h0⟩

/-- The run at once behind its glob: what the three searches stand on. -/
structure Stage (w : World) (gb : Nat) (wv : Value) (R : List RunV) (fb : Nat) (y z : Sl) (V : Nat → Int) (W : Nat → Bool) : Prop where
  ex : ∃ vc vl vm vs sv, GP w gb wv w (allC R) (allL R) (allM R) R.length (spans R 0 0 0) vc vl vm vs ∧ FoldB w fb y z V W sv ∧ ∀ b, vm.ownBlock = some b → sv.ownBlock ≠ some b

def StageP (w : World) (gb : Nat) (wv : Value) (R : List RunV) (fb : Nat) (y z : Sl) (V : Nat → Int) (W : Nat → Bool) (m : Nat) (C : Nat → Int) (fr : Nat) (st en : Bool) (e : Ending) (w' : World) : Prop :=
  ∃ (k : Int) (ok : Bool), e = .returned (.tuple #[.int .i64 k, .bool ok]) ∧ Found m C y.n V W fr st en k ok ∧ Stage w' gb wv R fb y z V W ∧ Below fb w w'

theorem stage_find {w : World} {gb : Nat} {wv : Value} {R : List RunV} {fb : Nat} {y z : Sl} {V : Nat → Int} {W : Nat → Bool} (hS : Stage w gb wv R fb y z V W) {A B : List RunV} {r : RunV} (hR : R = A ++ r :: B) (hok : ROk r)
    (b1 : (allC R).length ≤ 1048576) (b2 : (allL R).length ≤ 1048576) (b3 : (allM R).length ≤ 67108864) (b4 : R.length ≤ 1048576) (fr : Nat) (st en : Bool) :
    Calls Try.prog 22 #[.pointer (some ⟨gb, 0, none⟩), .int .i64 (A.length : Nat), .pointer (some ⟨fb, 0, none⟩), .int .i64 fr, .bool st, .bool en] w (StageP w gb wv R fb y z V W r.C.length (fun p => r.C[p]!) fr st en) := by
  obtain ⟨vc, vl, vm, vs, sv, hg, hf, hvm⟩ := hS.ex
  refine (zzfind_any hg hR hok b1 b2 b3 b4 hf hvm fr st en).mono ?_
  rintro e w' ⟨k, ok, rfl, h1, h2⟩
  obtain ⟨sv', h3, h4⟩ := hf.after h2
  refine ⟨k, ok, rfl, h1, ⟨vc, vl, vm, vs, sv', hg.after hf hvm h2, h3, fun b hb e => ?_⟩, h2.below hf.scr hf.lt⟩
  rcases h4 with h4 | h4
  · exact hvm b hb (by rw [← h4]; exact e)
  · have := h4 b e
    have := (hg.hm.lt b hb).2
    omega

theorem GP.reset {w0 w : World} {gb : Nat} {wv : Value} {Cs Ls : List Int} {Ms : List Nat} {ns : Nat} {Ss : List Value} {vc vl vm vs : Value} (h : GP w0 gb wv w Cs Ls Ms ns Ss vc vl vm vs) : GP w gb wv w Cs Ls Ms ns Ss vc vl vm vs := ⟨h.blk, h.hc, h.hl, h.hm, h.hs, h.dis, Below.refl _ _⟩

theorem allC_bound (r : RunV) (h : ROk r) : (allC [r]).length ≤ 1048576 ∧ (allL [r]).length ≤ 1048576 ∧ (allM [r]).length ≤ 67108864 := by
  have h1 := h.len
  have h2 := h.le
  have h3 := h.mlen
  have h4 : (r.L.length + 1) * ((r.C.length + 63) / 64) ≤ 4097 * 65 := Nat.mul_le_mul (by omega) (by omega)
  simp [allC, allL, allM]
  omega

set_option maxRecDepth 100000 in
set_option maxHeartbeats 2000000 in
theorem law8_any {w : World} (x0 x1 x2 : Sl) (C V : Nat → Int) (Wd : Nat → Bool) (a3 : Int) (st en : Bool) (h0 : Runes w x0 C) (h1 : Runes w x1 V) (h2 : Bools w x2 Wd) (h3 : -9223372036854775808 ≤ a3 ∧ a3 ≤ 9223372036854775807) :
    Calls Try.prog 8 #[.slice x0.s x0.n x0.c, .slice x1.s x1.n x1.c, .slice x2.s x2.n x2.c, .int .i64 a3, .bool st, .bool en] w (TrueP w) := by
  have l0 := h0.len
  have l1 := h1.len
  have l2 := h2.len
  have H0 := hid h0
  have H1 := hid h1
  have H2 := hid h2
  clear h0 h1 h2
  go_enter Try.func8, Try.ntmps8
  go_upto_region 3 with (go_at_call 25; refine (bytes25_any x0 x1 x2 a3 st en _ l0 l1 l2).mono ?_; rintro e w' ⟨bb, rfl, rfl⟩)
  · go_ret
    exact TrueP.mk rfl (Below.refl _ _)
  by_cases g0 : x0.n ≤ 1024
  rotate_left
  · go_wp2
    all_goals (go_ret; exact TrueP.mk rfl (Below.refl _ _))
  by_cases g1 : x1.n ≤ 1024
  rotate_left
  · go_wp2
    all_goals (go_ret; exact TrueP.mk rfl (Below.refl _ _))
  by_cases g2 : x2.n = x1.n
  rotate_left
  · have g2b : ((x2.n : Int) != (x1.n : Int)) = true := by simp only [bne_iff_ne, ne_eq]; omega
    go_wp2
    all_goals (go_ret; exact TrueP.mk rfl (Below.refl _ _))
  have g2b : ((x2.n : Int) != (x1.n : Int)) = false := by simp only [g2, bne_self_eq_false]
  have g2l : x2.n ≤ 1024 := by omega
  have G2 := hid g2
  clear g2
  by_cases g3 : a3 < 0
  · go_wp2
    all_goals (go_ret; exact TrueP.mk rfl (Below.refl _ _))
  obtain ⟨f, rfl⟩ : ∃ f : Nat, a3 = (f : Int) := ⟨a3.toNat, by omega⟩
  clear g3
  go_upto_region 10 with (go_at_call 12; refine (cloneRunes_any x0 C _ H0.out (by omega)).mono ?_; rintro e wa hcp; obtain ⟨s0, p0, o0, rfl, hh0, hb0, hl0⟩ := hcp.q)
  have Y0 := hid hh0
  have B0 := hid hb0
  have L0 := hid hl0
  have h1a := hid (H1.out.below hb0)
  have h2a := hid (H2.out.below hb0)
  clear hh0 hb0 hl0
  go_upto_region 11 with (go_at_call 12; refine (cloneRunes_any x1 V _ h1a.out (by omega)).mono ?_; rintro e wb hcp; obtain ⟨s1, p1, o1, rfl, hh1, hb1, hl1⟩ := hcp.q)
  have Y0b := hid (Y0.out.below hb1)
  have B1 := hid (B0.out.trans (hb1.mono B0.out.size))
  have h2b := hid (h2a.out.below hb1)
  have Y1 := hid hh1
  have L1 := hid hl1
  clear hh1 hb1 hl1 h1a h2a Y0 B0 L0
  go_upto_region 12 with (go_at_call 13; refine (cloneBools_any x2 Wd _ h2b.out (by omega)).mono ?_; rintro e wc hcp; obtain ⟨s2, p2, o2, rfl, hh2, hb2, hl2⟩ := hcp.q)
  have Y0c := hid (Y0b.out.below hb2)
  have Y1c := hid (Y1.out.below hb2)
  have B2 := hid (B1.out.trans (hb2.mono B1.out.size))
  have Y2 := hid hh2
  have L2 := hid hl2
  have L1c := hid (fun h => Nat.lt_of_lt_of_le (L1.out h) hb2.size)
  clear hh2 hb2 hl2 h2b Y0b Y1 B1 L1
  have HO := hid (oneRun_any ⟨s0, x0.n, x0.n, p0, o0⟩ C Y0c.out (by show x0.n ≤ _; omega))
  go_upto_region 13 with (go_at_call 21; refine HO.out.mono ?_; rintro e wd ⟨rfl, cs, F, vc, vl, vm, vs, hA⟩)
  obtain ⟨hgp, hok⟩ := add_run (R := []) hA (by omega) (by omega)
  simp only [List.nil_append] at hgp
  have hBd : Below wc.heap.size wc wd := ((Below.refl wc.heap.size wc).alloc (Nat.le_refl _) _).trans hgp.below
  have HBD := hid hBd
  have hfold : FoldB (wd.alloc (.cells #[.slice s1 x1.n x1.n, .slice s2 x2.n x2.n, .slice none 0 0] 52)) wd.heap.size ⟨s1, x1.n, x1.n, p1, o1⟩ ⟨s2, x2.n, x2.n, p2, o2⟩ V Wd (.slice none 0 0) := by
    have hB5 : Below wc.heap.size wc (wd.alloc (.cells #[.slice s1 x1.n x1.n, .slice s2 x2.n x2.n, .slice none 0 0] 52)) := hBd.alloc hBd.size _
    exact ⟨heap_alloc_new wd _, Or.inl rfl, Y1c.out.below hB5, Y2.out.below hB5, G2.out, Nat.le_refl _, by show x1.n ≤ _; omega, fun h => Nat.lt_of_lt_of_le (L1c.out h) hBd.size, fun h => Nat.lt_of_lt_of_le (L2.out h) hBd.size⟩
  have HSt : Hid (Stage (wd.alloc (.cells #[.slice s1 x1.n x1.n, .slice s2 x2.n x2.n, .slice none 0 0] 52)) wc.heap.size (.bool false) [runOf 0 x0.n C cs F] wd.heap.size ⟨s1, x1.n, x1.n, p1, o1⟩ ⟨s2, x2.n, x2.n, p2, o2⟩ V Wd) :=
    ⟨_, _, _, _, _, (hgp.alloc _).reset, hfold, fun b _ => nofun⟩
  have hab := allC_bound _ hok
  have HFI : Hid (∀ w6, Stage w6 wc.heap.size (.bool false) [runOf 0 x0.n C cs F] wd.heap.size ⟨s1, x1.n, x1.n, p1, o1⟩ ⟨s2, x2.n, x2.n, p2, o2⟩ V Wd → ∀ st en : Bool, Calls Try.prog 22 #[.pointer (some ⟨wc.heap.size, 0, none⟩), .int .i64 0, .pointer (some ⟨wd.heap.size, 0, none⟩), .int .i64 f, .bool st, .bool en] w6
      (StageP w6 wc.heap.size (.bool false) [runOf 0 x0.n C cs F] wd.heap.size ⟨s1, x1.n, x1.n, p1, o1⟩ ⟨s2, x2.n, x2.n, p2, o2⟩ V Wd (runOf 0 x0.n C cs F).C.length (fun p => (runOf 0 x0.n C cs F).C[p]!) f st en)) := fun w6 h6 st en =>
    stage_find h6 (A := []) (B := []) rfl hok hab.1 hab.2.1 hab.2.2 (by simp) f st en
  have HBW : Hid (Below w'.heap.size w' (wd.alloc (.cells #[.slice s1 x1.n x1.n, .slice s2 x2.n x2.n, .slice none 0 0] 52))) := (B2.out.trans (hBd.mono B2.out.size)).alloc (Nat.le_trans B2.out.size hBd.size) _
  have HLE : Hid (w'.heap.size ≤ wd.heap.size) := Nat.le_trans B2.out.size hBd.size
  clear hA hgp hok hBd hfold hab HO Y0c Y1c Y2 L2 L1c B2 HBD
  generalize runOf 0 x0.n C cs F = r at *
  have HNF := hid (newFolded_any wd ⟨s1, x1.n, x1.n, p1, o1⟩ ⟨s2, x2.n, x2.n, p2, o2⟩)
  go_upto_region 14 with (go_at_call 16; refine HNF.out.mono ?_; rintro e we ⟨rfl, rfl⟩)
  revert HSt HBW
  generalize wd.alloc (.cells #[.slice s1 x1.n x1.n, .slice s2 x2.n x2.n, .slice none 0 0] 52) = we
  intro HBW HSt
  clear HNF hcp
  generalize hgbv : wc.heap.size = gb at *
  generalize hfbv : wd.heap.size = fb at *
  clear hgbv hfbv
  go_upto_region 15 with (go_at_call 22; refine (HFI.out _ HSt.out st en).mono ?_; rintro e wf ⟨k1, ok1, rfl, hf1, hs1, hb1⟩)
  have HF1 := hid hf1
  have HS1 := hid hs1
  have HB1 := hid (HBW.out.trans (hb1.mono HLE.out))
  clear hf1 hs1 hb1 HSt HBW
  cases ok1 with
  | false =>
    go_wp2
    go_ret
    exact TrueP.mk rfl HB1.out
  | true =>
    go_upto_region 18 with (go_at_call 22; refine (HFI.out _ HS1.out st false).mono ?_; rintro e wg ⟨k2, ok2, rfl, hf2, hs2, hb2⟩)
    have hl2 := found_less HF1.out hf2 (fun h => h) (by simp)
    obtain ⟨rfl, hle2⟩ := hl2
    have HF2 := hid hf2
    have HS2 := hid hs2
    have HB2 := hid (HB1.out.trans (hb2.mono HLE.out))
    clear hf2 hs2 hb2
    go_upto_region 19 with (go_at_call 22; refine (HFI.out _ HS2.out false false).mono ?_; rintro e wh ⟨k3, ok3, rfl, hf3, hs3, hb3⟩)
    have hl3 := found_less HF2.out hf3 (by simp) (by simp)
    obtain ⟨rfl, hle3⟩ := hl3
    have HB3 := hid (HB2.out.trans (hb3.mono HLE.out))
    clear hf3 hs3 hb3
    go_wp2
    go_ret
    exact TrueP.mk rfl HB3.out
end Go.Proofs.Qxb6601041a
