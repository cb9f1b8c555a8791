/-
  Seat b6601041a: zzCompile: the pattern cut at its stars into runs.
-/
import Derived.Test.Qxb6601041aTop
import Derived.Test.Qxb6601041aKit
import Derived.Test.Qxb6601041aMatchM
namespace Go.Proofs.Qxb6601041a
open Go.RowKit

/-- How many stars before i. -/
def cnt (P : Nat → Int) : Nat → Nat
  | 0 => 0
  | i + 1 => cnt P i + (if P i = -2 then 1 else 0)
theorem cnt_le (P : Nat → Int) : ∀ i, cnt P i ≤ i
  | 0 => Nat.le_refl _
  | i + 1 => by
    have := cnt_le P i
    unfold cnt
    split <;> omega
theorem cnt_mono (P : Nat → Int) (i : Nat) : ∀ d, cnt P i ≤ cnt P (i + d)
  | 0 => Nat.le_refl _
  | d + 1 => by
    have := cnt_mono P i d
    show _ ≤ cnt P (i + d) + _
    omega

theorem slice_sub22 {w : World} {x : Sl} {P : Nat → Int} (h : Runes w x P) (hcap : x.n ≤ x.c) (hc0 : x.n = 0 → x.s = none → x.c = 0) (hcb : x.c ≤ 1048576) {lo hi : Nat} (h1 : lo ≤ hi) (h2 : hi ≤ x.n) :
    ∃ x' : Sl, x'.n = hi - lo ∧ (∀ w', (Instr.slice 22 (.slice x.s x.n x.c) (some (.int .i64 lo)) (some (.int .i64 hi)) none).run Try.prog w' = .ok (.slice x'.s x'.n x'.c) w') ∧ (0 < x'.n → x'.b = x.b) ∧ (∀ w' : World, (0 < x.n → w'.heap[x.b]? = w.heap[x.b]?) → Runes w' x' (fun p => P (lo + p))) := by
  rcases Nat.eq_zero_or_pos x.n with h0 | h0
  · obtain rfl : hi = 0 := by omega
    obtain rfl : lo = 0 := by omega
    refine ⟨⟨x.s, 0, x.c, x.b, x.off⟩, rfl, fun w' => ?_, fun h => absurd h (Nat.lt_irrefl _), fun w' _ => ⟨fun i hi => absurd hi (Nat.not_lt_zero _), by simp⟩⟩
    rw [h0]
    cases hs : x.s with
    | none =>
      rw [hc0 h0 hs]
      simp [Instr.slice, run_underlying Try.underlying22, Instr.sliceBounds, Instr.sliceBound, asIntOf, go_sem]
    | some a =>
      simp [Instr.slice, run_underlying Try.underlying22, Instr.sliceBounds, Instr.sliceBound, asIntOf, go_sem]
  · have hs := (h.row 0 h0).1
    refine ⟨⟨some ⟨x.b, if x.c = lo then x.off else x.off + lo, none⟩, hi - lo, x.c - lo, x.b, if x.c = lo then x.off else x.off + lo⟩, rfl, fun w' => ?_, fun _ => rfl, fun w' hk => ⟨fun i hi' => ⟨rfl, ?_⟩, by simp only []; omega⟩⟩
    · rw [hs]
      simp [Instr.slice, run_underlying Try.underlying22, Instr.sliceBounds, Instr.sliceBound, asIntOf, go_sem]
      rw [if_pos (by omega), if_pos h1]
      by_cases h : x.c = lo
      · simp [h]
      · simp [h]
    · simp only [] at hi' ⊢
      rw [if_neg (by omega), World.cell?_of_block (w := w) (a := ⟨x.b, x.off + lo + i, none⟩) (hk h0), Nat.add_assoc]
      exact h.cell (by omega)

/-- The same run. -/
structure Eqv (q q' : RunD) : Prop where
  gap : q.gap = q'.gap
  m : q.m = q'.m
  C : ∀ p, p < q.m → q.C p = q'.C p
theorem Eqv.fit {q q' : RunD} (h : Eqv q q') (V : Nat → Int) (s : Nat) : Fit q.m q.C V s ↔ Fit q'.m q'.C V s := by
  unfold Fit Ok
  rw [← h.m]
  constructor
  · intro k p hp
    rw [← h.C p hp]
    exact k p hp
  · intro k p hp
    rw [h.C p hp]
    exact k p hp
theorem done_swap {P : Nat → Int} {np : Nat} {r0 q q' : RunD} {rs : List RunD} {st cy : Nat} (h : Done P np r0 (rs ++ [q]) st cy) (he : Eqv q q') : Done P np r0 (rs ++ [q']) st cy := by
  intro V s e
  rw [h V s e, chain_append, chain_append]
  rw [chain_congr V (fun pos => ?_)]
  constructor
  · rintro ⟨t, h1, h2, h3⟩
    exact ⟨t, by rw [← he.gap]; exact h1, (he.fit V t).1 h2, by rw [← he.m]; exact h3⟩
  · rintro ⟨t, h1, h2, h3⟩
    exact ⟨t, by rw [he.gap]; exact h1, (he.fit V t).2 h2, by rw [he.m]; exact h3⟩
theorem done_swap0 {P : Nat → Int} {np : Nat} {q q' : RunD} {st cy : Nat} (h : Done P np q [] st cy) (he : Eqv q q') : Done P np q' [] st cy := by
  intro V s e
  rw [h V s e, he.fit V s, he.m]
theorem all_swap0 {P : Nat → Int} {np : Nat} {q q' : RunD} (h : ∀ V s e, PM V P np 0 s e ↔ Fit q.m q.C V s ∧ s + q.m = e) (he : Eqv q q') : All P np [q'] := by
  refine Or.inl ⟨q', rfl, fun V s e => ?_⟩
  rw [h V s e, he.fit V s, he.m]
theorem all_swap {P : Nat → Int} {np : Nat} {r0 q q' : RunD} {rs : List RunD} {st cy a : Nat} (h : Done P np r0 rs st cy) (hi : st + a ≤ np) (hns : ∀ p, st ≤ p → p < np → P p ≠ -2) (ha : ∀ p, p < a → P (st + p) = -1) (hq : q = ⟨cy + a, np - (st + a), fun p => P (st + a + p)⟩) (he : Eqv q q') : All P np (r0 :: (rs ++ [q'])) := by
  refine Or.inr ⟨r0, rs, q', rfl, fun V s e => ?_⟩
  rw [h V s e, chain_congr V (left_end (V := V) (P := P) (np := np) (st := st) (cy := cy) (e := e) (a := a) hi hns ha)]
  rw [chain_congr V (fun pos => ?_)]
  subst hq
  constructor
  · rintro ⟨t, h1, h2, h3⟩
    exact ⟨t, by rw [← he.gap]; exact h1, (he.fit V t).1 h2, by rw [← he.m]; exact h3⟩
  · rintro ⟨t, h1, h2, h3⟩
    exact ⟨t, by have := he.gap; rw [← this] at h1; exact h1, (he.fit V t).2 h2, by have := he.m; rw [← this] at h3; exact h3⟩
theorem eqv_run (gap n : Nat) (C : Nat → Int) (cs : List Int) (F : Nat → Nat) : Eqv ⟨gap, n, C⟩ (rd (runOf gap n C cs F)) := by
  refine ⟨rfl, by simp [rd, runOf], fun p hp => ?_⟩
  show C p = ((List.range n).map C)[p]!
  rw [range_get n C p hp]

/-- Where compiling stands at i. -/
structure CI (P : Nat → Int) (np i st cy : Nat) (R : List RunV) : Prop where
  sti : st ≤ i
  cyb : cy ≤ st
  ns : ∀ p, st ≤ p → p < i → P p ≠ -2
  first : cnt P i = 0 → R = [] ∧ st = 0 ∧ cy = 0
  more : 0 < cnt P i → ∃ r0 rs, R = r0 :: rs ∧ Done P np (rd r0) (rs.map rd) st cy

structure CB (R : List RunV) (st : Nat) : Prop where
  ok : ∀ r ∈ R, ROk r
  c : (allC R).length ≤ st
  l : (allL R).length ≤ st
  m : (allM R).length ≤ R.length * 17442
  n : R.length ≤ st

def CompL (w1 : World) (gb : Nat) (wv : Value) (P : Nat → Int) (np i st cy : Nat) (wr : World) : Prop :=
  ∃ (R : List RunV) (vc vl vm vs : Value), GP w1 gb wv wr (allC R) (allL R) (allM R) R.length (spans R 0 0 0) vc vl vm vs ∧ CB R st ∧ ((i ≤ np ∧ CI P np i st cy R) ∨ (i = np + 1 ∧ st = np + 1 ∧ All P np (R.map rd)))

theorem GP.reset' {w0 w : World} {gb : Nat} {wv : Value} {Cs Ls : List Int} {Ms : List Nat} {ns : Nat} {Ss : List Value} {vc vl vm vs : Value} (h : GP w0 gb wv w Cs Ls Ms ns Ss vc vl vm vs) : GP w gb wv w Cs Ls Ms ns Ss vc vl vm vs := ⟨h.blk, h.hc, h.hl, h.hm, h.hs, h.dis, Below.refl _ _⟩

/-- Behind zzCompile. -/
def CompP (w : World) (P : Nat → Int) (np : Nat) (words : Bool) (e : Ending) (w' : World) : Prop :=
  e = .returned (.pointer (some ⟨w.heap.size, 0, none⟩)) ∧ ∃ R vc vl vm vs, GP w' w.heap.size (.bool words) w' (allC R) (allL R) (allM R) R.length (spans R 0 0 0) vc vl vm vs ∧ CB R (np + 1) ∧ All P np (R.map rd) ∧ Below w.heap.size w w'

theorem cb_add {R : List RunV} {st n gap : Nat} {C : Nat → Int} {cs : List Int} {F : Nat → Nat} (h : CB R st) (hok : ROk (runOf gap n C cs F)) (hn : n ≤ 1025) {st' : Nat} (hst : st + n + 1 ≤ st') (hcs : cs.length ≤ n) : CB (R ++ [runOf gap n C cs F]) st' := by
  have l0 : (runOf gap n C cs F).C.length = n := by simp [runOf]
  have e0 : (allC (R ++ [runOf gap n C cs F])).length = (allC R).length + n := by simp [allC, l0]
  have e1 : (allL (R ++ [runOf gap n C cs F])).length = (allL R).length + cs.length := by simp [allL, runOf]
  have e2 : (allM (R ++ [runOf gap n C cs F])).length = (allM R).length + (cs.length + 1) * ((n + 63) / 64) := by simp [allM, runOf]
  have h1 := h.c
  have h2 := h.l
  have h3 := h.m
  have h4 := h.n
  have h5 : (cs.length + 1) * ((n + 63) / 64) ≤ 1027 * 17 - 17 := by
    have : (cs.length + 1) * ((n + 63) / 64) ≤ 1026 * 17 := Nat.mul_le_mul (by omega) (by omega)
    omega
  refine ⟨fun r hr => ?_, by omega, by omega, ?_, by simp; omega⟩
  · rcases List.mem_append.1 hr with hr | hr
    · exact h.ok r hr
    · simp at hr
      subst hr
      exact hok
  · have e3 : (R ++ [runOf gap n C cs F]).length = R.length + 1 := by simp
    rw [e2, e3]
    generalize (cs.length + 1) * ((n + 63) / 64) = K at *
    omega

/-- One segment more. -/
theorem seg_step {P : Nat → Int} {np i st cy a b : Nat} {R : List RunV} {cs : List Int} {F : Nat → Nat} (hci : CI P np i st cy R) (hin : i ≤ np) (hend : i = np ∨ (i < np ∧ P i = -2)) (hab : st + a + b ≤ i) (ha : ∀ p, p < a → P (st + p) = -1) (hb : ∀ p, p < b → P (i - b + p) = -1) (ha0 : cnt P i = 0 → a = 0) (hb0 : cnt P np ≤ cnt P i → b = 0) :
    (i + 1 ≤ np ∧ CI P np (i + 1) (i + 1) b (R ++ [runOf (cy + a) (i - b - (st + a)) (fun p => P (st + a + p)) cs F])) ∨ (i + 1 = np + 1 ∧ i + 1 = np + 1 ∧ All P np ((R ++ [runOf (cy + a) (i - b - (st + a)) (fun p => P (st + a + p)) cs F]).map rd)) := by
  rcases hend with rfl | ⟨h1, h2⟩
  · right
    refine ⟨rfl, rfl, ?_⟩
    obtain rfl := hb0 (Nat.le_refl _)
    rcases Nat.eq_zero_or_pos (cnt P i) with h3 | h3
    · obtain ⟨rfl, rfl, rfl⟩ := hci.first h3
      obtain rfl := ha0 h3
      simp only [List.nil_append, List.map_cons, List.map_nil]
      have hone := fun V s e => pm_seg V P 0 e i 0 s (fun p hp => by rw [Nat.zero_add]; exact hci.ns p (Nat.zero_le _) hp)
      refine all_swap0 (q := ⟨0 + 0, i - 0 - (0 + 0), fun p => P (0 + 0 + p)⟩) (fun V s e => ?_) (eqv_run _ _ _ _ _)
      have h4 := hone V s e
      simp only [Nat.zero_add, Nat.add_zero, Nat.sub_zero] at h4 ⊢
      rw [h4]
      constructor
      · rintro ⟨h5, _, h6⟩
        exact ⟨h5, h6⟩
      · rintro ⟨h5, h6⟩
        exact ⟨h5, Nat.le_of_eq h6, h6⟩
    · obtain ⟨r0, rs, rfl, hd⟩ := hci.more h3
      simp only [List.cons_append, List.map_cons, List.map_append, List.map_nil]
      exact all_swap hd (by omega) (fun p h4 h5 => hci.ns p h4 h5) ha rfl (eqv_run _ _ _ _ _)
  · left
    have hc : cnt P (i + 1) = cnt P i + 1 := by show cnt P i + (if P i = -2 then 1 else 0) = _; rw [if_pos h2]
    refine ⟨h1, ⟨Nat.le_refl _, by omega, fun p h3 h4 => by omega, fun h3 => by omega, fun _ => ?_⟩⟩
    rcases Nat.eq_zero_or_pos (cnt P i) with h3 | h3
    · obtain ⟨rfl, rfl, rfl⟩ := hci.first h3
      obtain rfl := ha0 h3
      refine ⟨_, [], rfl, ?_⟩
      have hd := done_first (P := P) (np := np) (i := i) (b := b) (by omega) h1 h2 (fun p hp => hci.ns p (Nat.zero_le _) hp) hb
      refine done_swap0 hd ⟨rfl, by simp [rd, runOf], fun p hp => ?_⟩
      have hp' : p < i - b - (0 + 0) := by simpa using hp
      show P p = ((List.range (i - b - (0 + 0))).map (fun p => P (0 + 0 + p)))[p]!
      rw [range_get _ _ p hp']
      simp
    · obtain ⟨r0, rs, rfl, hd⟩ := hci.more h3
      refine ⟨r0, rs ++ [_], rfl, ?_⟩
      rw [List.map_append, List.map_cons, List.map_nil]
      exact done_swap (done_next hd hab h1 h2 hci.ns ha hb) (eqv_run _ _ _ _ _)

set_option maxRecDepth 100000 in
set_option maxHeartbeats 4000000 in
theorem compile_any {w : World} (x : Sl) (P : Nat → Int) (words : Bool) (hx : Runes w x P) (hb : x.n ≤ 1025) (hcap : x.n ≤ x.c) (hcb : x.c ≤ 1048576) (hc0 : x.n = 0 → x.s = none → x.c = 0) :
    Calls Try.prog 14 #[.slice x.s x.n x.c, .bool words] w (CompP w P x.n words) := by
  have HX := hid hx
  have HXL := hid (fun h0 : 0 < x.n => hx.blk h0)
  have HN := hid (newGlob_any w words)
  have HG := hid (gp_new w words)
  have HC0 := hid hc0
  clear hx hc0
  go_enter Try.func14, Try.ntmps14
  go_upto_region 4 with (go_at_call 27; refine HN.out.mono ?_; rintro e w' ⟨rfl, rfl⟩)
  have HX1 : Hid (Runes (w.alloc (.cells #[.slice none 0 0, .slice none 0 0, .slice none 0 0, .slice none 0 0, .bool words] 62)) x P) := HX.out.kept (fun h0 => Below.heap_alloc _ _ _ (HXL.out h0))
  have HB1 : Hid (Below w.heap.size w (w.alloc (.cells #[.slice none 0 0, .slice none 0 0, .slice none 0 0, .slice none 0 0, .bool words] 62))) := (Below.refl _ w).alloc (Nat.le_refl _) _
  revert HG HX1 HB1
  generalize w.alloc (.cells #[.slice none 0 0, .slice none 0 0, .slice none 0 0, .slice none 0 0, .bool words] 62) = w1
  intro HG HX1 HB1
  generalize hgb : w.heap.size = gb at *
  have HGB := hid hgb
  clear hgb HN
  go_loop [6, 7] (fun a b => ∃ i : Nat, a = .int .i64 (cnt P i : Nat) ∧ b = .int .i64 i ∧ i ≤ x.n) (fun _ b => x.n - (intOf b).toNat)
  case atStart => exact ⟨0, rfl, rfl, Nat.zero_le _⟩
  obtain ⟨i, rfl, rfl, hi⟩ := hrel
  by_cases hlt : i < x.n
  · have hix := idx22 HX1.out i hlt
    have hc := HX1.out.cell hlt
    have hcl := cnt_le P i
    by_cases hP : P i = -2
    · have hPb : (P i == -2) = true := by simp [hP]
      have HCN := hid (show cnt P (i + 1) = cnt P i + 1 by show cnt P i + (if P i = -2 then 1 else 0) = _; rw [if_pos hP])
      go_wp2
      go_round
      case rel => exact ⟨i + 1, by rw [HCN.out]; go_num, by go_num, by omega⟩
      case measure => simp [intOf]; omega
    · have hPb : (P i == -2) = false := by simp [hP]
      have HCN := hid (show cnt P (i + 1) = cnt P i by show cnt P i + (if P i = -2 then 1 else 0) = _; rw [if_neg hP]; rfl)
      go_wp2
      go_round
      case rel => exact ⟨i + 1, by rw [HCN.out], by go_num, by omega⟩
      case measure => simp [intOf]; omega
  · obtain rfl : i = x.n := by omega
    clear hlt hi
    obtain ⟨tot, htot⟩ : ∃ t, t = cnt P x.n := ⟨_, rfl⟩
    have htb : tot ≤ 1025 := by have := cnt_le P x.n; omega
    have HTOT := hid htot
    rw [← htot]
    clear htot
    go_wp2
    go_loopw [8, 9, 10, 11] (fun c8 c9 c10 c11 wr => ∃ i st cy sg : Nat, c8 = .int .i64 cy ∧ c9 = .int .i64 sg ∧ c10 = .int .i64 st ∧ c11 = .int .i64 i ∧ i ≤ x.n + 1 ∧ st ≤ x.n + 1 ∧ cy ≤ x.n ∧ sg ≤ x.n + 1 ∧ Hid (i ≤ x.n → sg = cnt P i) ∧ Hid (CompL w1 gb (.bool words) P x.n i st cy wr)) (fun _ _ _ c11 _ => x.n + 1 - (intOf c11).toNat)
    case atStart =>
      exact ⟨0, 0, 0, 0, rfl, rfl, rfl, rfl, by omega, by omega, by omega, by omega, fun _ => rfl, [], _, _, _, _, HG.out, ⟨fun r hr => by simp at hr, Nat.le_refl _, Nat.le_refl _, Nat.le_refl _, Nat.le_refl _⟩, Or.inl ⟨by omega, ⟨Nat.le_refl _, Nat.le_refl _, fun p h1 h2 => by omega, fun _ => ⟨rfl, rfl, rfl⟩, fun h => absurd h (Nat.lt_irrefl _)⟩⟩⟩
    case round =>
      obtain ⟨i, st, cy, sg, rfl, rfl, rfl, rfl, hi, hst, hcy, hsg, HSG, HCL⟩ := hrel
      by_cases hin : i ≤ x.n
      rotate_left
      · have hE := HCL.out
        obtain ⟨R, vc, vl, vm, vs, hgp, hcb', hor⟩ := hE
        rcases hor with ⟨h1, _⟩ | ⟨h1, h2, hall⟩
        · exact absurd h1 hin
        · have HF : Hid (∃ R vc vl vm vs, GP wr gb (.bool words) wr (allC R) (allL R) (allM R) R.length (spans R 0 0 0) vc vl vm vs ∧ CB R (x.n + 1) ∧ All P x.n (R.map rd) ∧ Below gb w wr) := ⟨R, vc, vl, vm, vs, hgp.reset', by rw [← h2]; exact hcb', hall, HB1.out.trans hgp.below⟩
          clear hgp hcb' hall h2
          go_wp2
          go_ret
          refine ⟨by rw [HGB.out]; rfl, ?_⟩
          rw [HGB.out]
          exact HF.out
      have hsgE := HSG.out hin
      by_cases hns : i < x.n ∧ P i ≠ -2
      · have hix := idx22 HX1.out i hns.1
        have hce : wr.cell? ⟨x.b, x.off + i, none⟩ = some (.int .i32 (P i)) := by
          obtain ⟨R, vc, vl, vm, vs, hgp, _⟩ := HCL.out
          rw [hgp.below.cell (p := ⟨x.b, x.off + i, none⟩) (HXL.out (by omega))]
          exact HX1.out.cell hns.1
        have hPb : (P i != -2) = true := by simp [hns.2]
        have hlt := hns.1
        have hcn : cnt P (i + 1) = cnt P i := by show cnt P i + (if P i = -2 then 1 else 0) = _; rw [if_neg hns.2]; rfl
        have HNX : Hid (CompL w1 gb (.bool words) P x.n (i + 1) st cy wr) := by
          obtain ⟨R, vc, vl, vm, vs, hgp, hcb', hor⟩ := HCL.out
          refine ⟨R, vc, vl, vm, vs, hgp, hcb', Or.inl ⟨by omega, ?_⟩⟩
          rcases hor with ⟨_, hci⟩ | ⟨h1, _⟩
          · refine ⟨Nat.le_succ_of_le hci.sti, hci.cyb, fun p h1 h2 => ?_, by rw [hcn]; exact hci.first, by rw [hcn]; exact hci.more⟩
            rcases Nat.lt_or_ge p i with h3 | h3
            · exact hci.ns p h1 h3
            · obtain rfl : p = i := by omega
              exact hns.2
          · omega
        have HSG' : Hid (i + 1 ≤ x.n → sg = cnt P (i + 1)) := fun _ => by rw [hcn]; exact hsgE
        clear hns hcn hsgE
        go_wp2
        go_roundw
        case rel => exact ⟨i + 1, st, cy, sg, rfl, rfl, rfl, by go_num, by omega, hst, hcy, hsg, HSG', HNX⟩
        case measure => simp [intOf]; omega
      · -- a segment ends at i
        have HSGE := hid hsgE
        clear hsgE
        have hend : i = x.n ∨ (i < x.n ∧ P i = -2) := by
          rcases Nat.lt_or_ge i x.n with h1 | h1
          · exact Or.inr ⟨h1, Classical.byContradiction fun h2 => hns ⟨h1, h2⟩⟩
          · exact Or.inl (by omega)
        have HEND := hid hend
        have hsti : st ≤ i := by
          obtain ⟨R, vc, vl, vm, vs, hgp, hcb', hor⟩ := HCL.out
          rcases hor with ⟨_, hci⟩ | ⟨h1, _⟩
          · exact hci.sti
          · omega
        have hcyb : cy ≤ st := by
          obtain ⟨R, vc, vl, vm, vs, hgp, hcb', hor⟩ := HCL.out
          rcases hor with ⟨_, hci⟩ | ⟨h1, _⟩
          · exact hci.cyb
          · omega
        have HXr : Hid (Runes wr x P) := by
          obtain ⟨R, vc, vl, vm, vs, hgp, _⟩ := HCL.out
          exact HX1.out.kept (fun h0 => hgp.below.block _ (HXL.out h0))
        clear hend hns
        go_upto_region 14 with fail
        go_cut [46] from 30 to 94 (fun s46 wx => s46 = .bool false ∧ wx = wr)
        case first =>
          rcases HEND.out with h1 | ⟨h1, h2⟩
          · have hni : ¬ ((i : Int) < (x.n : Int)) := by omega
            clear h1
            go_wp2
            go_meet
            exact ⟨rfl, rfl⟩
          · have hix := idx22 HXr.out i h1
            have hce := HXr.out.cell h1
            have hPb : (P i != -2) = false := by simp [h2]
            clear h2
            go_wp2
            go_meet
            exact ⟨rfl, rfl⟩
        case rest =>
          obtain ⟨rfl, rfl⟩ := hcut
          go_upto_if 51 with fail
          go_cut [12, 14] from 30 to 94 (fun s12 s14 wx => ∃ lo g a : Nat, s12 = .int .i64 lo ∧ s14 = .int .i64 g ∧ lo ≤ i ∧ g ≤ 2050 ∧ Hid (lo = st + a ∧ g = cy + a) ∧ Hid (∀ p, p < a → P (st + p) = -1) ∧ Hid (sg = 0 → a = 0) ∧ wx = wc)
          case first =>
            by_cases hs0 : sg = 0
            · have hsn : ¬ ((sg : Int) > 0) := by omega
              clear hs0
              go_wp2
              go_meet
              exact ⟨st, cy, 0, rfl, rfl, hsti, by omega, ⟨rfl, rfl⟩, fun p hp => absurd hp (Nat.not_lt_zero _), fun _ => rfl, rfl⟩
            · have hsp : (sg : Int) > 0 := by omega
              go_wp2
              go_loop [12, 14] (fun a b => ∃ lo g k : Nat, a = .int .i64 lo ∧ b = .int .i64 g ∧ lo ≤ i ∧ g ≤ 2050 ∧ Hid (lo = st + k ∧ g = cy + k) ∧ Hid (∀ p, p < k → P (st + p) = -1)) (fun a _ => i - (intOf a).toNat)
              case atStart => exact ⟨st, cy, 0, rfl, rfl, hsti, by omega, ⟨rfl, rfl⟩, fun p hp => absurd hp (Nat.not_lt_zero _)⟩
              obtain ⟨lo, g, k, rfl, rfl, hlo, hg, HLG, HK⟩ := hrel
              by_cases hkl : lo < i
              · have hix := idx22 HXr.out lo (by omega)
                have hce := HXr.out.cell (i := lo) (by omega)
                by_cases hP : P lo = -1
                · have hPb : (P lo == -1) = true := by simp [hP]
                  have HP := hid hP
                  clear hP
                  go_wp2
                  go_round
                  case rel => exact ⟨lo + 1, g + 1, k + 1, by go_num, by go_num, by omega, by have := HLG.out; omega, by have := HLG.out; exact ⟨by omega, by omega⟩, fun p hp => by
                    rcases Nat.lt_or_ge p k with h1 | h1
                    · exact HK.out p h1
                    · obtain rfl : p = k := by omega
                      rw [← HLG.out.1]
                      exact HP.out⟩
                  case measure => simp [intOf]; omega
                · have hPb : (P lo == -1) = false := by simp [hP]
                  go_wp2
                  go_meet
                  exact ⟨lo, g, k, rfl, rfl, hlo, hg, HLG, HK, fun h => absurd h hs0, rfl⟩
              · have hkn : ¬ ((lo : Int) < (i : Int)) := by omega
                go_wp2
                go_meet
                exact ⟨lo, g, k, rfl, rfl, hlo, hg, HLG, HK, fun h => absurd h hs0, rfl⟩
          case rest =>
            obtain ⟨lo, g, a, rfl, rfl, hlo, hg, HLG, HA1, HA0, rfl⟩ := hcut
            go_upto_if 68 with fail
            go_cut [8, 13] from 30 to 94 (fun s8 s13 wx => ∃ hi b : Nat, s8 = .int .i64 b ∧ s13 = .int .i64 hi ∧ lo ≤ hi ∧ hi ≤ i ∧ Hid (hi + b = i) ∧ Hid (∀ p, p < b → P (i - b + p) = -1) ∧ Hid (tot ≤ sg → b = 0) ∧ wx = wc)
            case first =>
              by_cases hs0 : tot ≤ sg
              · have hsn : ¬ ((sg : Int) < (tot : Int)) := by omega
                go_wp2
                go_meet
                exact ⟨i, 0, rfl, rfl, hlo, Nat.le_refl _, rfl, fun p hp => absurd hp (Nat.not_lt_zero _), fun _ => rfl, rfl⟩
              · have hsp : (sg : Int) < (tot : Int) := by omega
                go_wp2
                go_loop [8, 13] (fun c d => ∃ hi b : Nat, c = .int .i64 b ∧ d = .int .i64 hi ∧ lo ≤ hi ∧ hi ≤ i ∧ Hid (hi + b = i) ∧ Hid (∀ p, p < b → P (i - b + p) = -1)) (fun _ d => (intOf d).toNat)
                case atStart => exact ⟨i, 0, rfl, rfl, hlo, Nat.le_refl _, rfl, fun p hp => absurd hp (Nat.not_lt_zero _)⟩
                obtain ⟨hi', b, rfl, rfl, hlh, hhi, HHB, HKb⟩ := hrel
                have hbb : b ≤ 1025 := by have := HHB.out; omega
                by_cases hkl : lo < hi'
                · have hix := idx22 HXr.out (hi' - 1) (by omega)
                  have hce := HXr.out.cell (i := hi' - 1) (by omega)
                  have e1 : ((hi' - 1 : Nat) : Int) = (hi' : Int) - 1 := by omega
                  simp only [e1] at hix
                  have E1 := hid e1
                  clear e1
                  by_cases hP : P (hi' - 1) = -1
                  · have hPb : (P (hi' - 1) == -1) = true := by simp [hP]
                    have HP := hid hP
                    clear hP
                    go_wp2
                    go_round
                    case rel => exact ⟨hi' - 1, b + 1, by go_num, by rw [← E1.out], by omega, by omega, by have := HHB.out; exact (by omega : hi' - 1 + (b + 1) = i), fun p hp => by
                      have h3 := HHB.out
                      rcases Nat.eq_zero_or_pos p with h1 | h1
                      · subst h1
                        rw [show i - (b + 1) + 0 = hi' - 1 by omega]
                        exact HP.out
                      · have := HKb.out (p - 1) (by omega)
                        rwa [show i - b + (p - 1) = i - (b + 1) + p by omega] at this⟩
                    case measure => simp [intOf]; omega
                  · have hPb : (P (hi' - 1) == -1) = false := by simp [hP]
                    go_wp2
                    go_meet
                    exact ⟨hi', b, rfl, rfl, hlh, hhi, HHB, HKb, fun h => absurd h hs0, rfl⟩
                · have hkn : ¬ ((hi' : Int) > (lo : Int)) := by omega
                  go_wp2
                  go_meet
                  exact ⟨hi', b, rfl, rfl, hlh, hhi, HHB, HKb, fun h => absurd h hs0, rfl⟩
            case rest =>
              obtain ⟨hi', b, rfl, rfl, hlh, hhi, HHB, HKb, HB0, rfl⟩ := hcut
              obtain ⟨x', hxn', hsl', hxb', hxr'⟩ := slice_sub22 HXr.out hcap HC0.out hcb hlh (Nat.le_trans hhi hin)
              have hgsz : g ≤ 1048576 := by omega
              have HADD : Hid (∃ (R : List RunV) (vc vl vm vs : Value), GP w1 gb (.bool words) wc (allC R) (allL R) (allM R) R.length (spans R 0 0 0) vc vl vm vs ∧ CB R st ∧ CI P x.n i st cy R) := by
                obtain ⟨R, vc, vl, vm, vs, hgp, hcb', hor⟩ := HCL.out
                rcases hor with ⟨_, hci⟩ | ⟨h1, _⟩
                · exact ⟨R, vc, vl, vm, vs, hgp, hcb', hci⟩
                · omega
              obtain ⟨R, vc, vl, vm, vs, hgp, hcb', hci⟩ := HADD.out
              have hcm := hcb'.m
              have hcn := hcb'.n
              have hadd := zzadd_any hgp.reset' x' (fun p => P (lo + p)) (hxr' wc (fun _ => rfl)) (fun h0 => by rw [hxb' h0]; exact HXL.out (by omega)) g (by omega) (by have := hcb'.c; omega) (by have := hcb'.l; omega) (by omega) (by omega) hgsz
              have HAD := hid hadd
              have HGP := hid hgp
              have HCB := hid hcb'
              have HCI := hid hci
              have HXN' := hid hxn'
              clear hadd hgp hcb' hci hxr' hxb' hxn' hcm hcn HADD
              go_upto_region 28 with (go_at_call 28; refine HAD.out.mono ?_; rintro e w8 ⟨rfl, cs, F, vc', vl', vm', vs', hA⟩)
              have hnx : Hid (CompL w1 gb (.bool words) P x.n (i + 1) (i + 1) b w8) := by
                obtain ⟨k1, k2⟩ := add_run hA (by have := HXN'.out; omega) hgsz
                have e1 := HLG.out
                have e2 := HHB.out
                have e3 := HXN'.out
                have en : x'.n = i - b - (st + a) := by omega
                have hA' := hA.le
                rw [en, e1.2] at k1 k2
                rw [en] at hA'
                have eC : (fun p => P (lo + p)) = (fun p => P (st + a + p)) := by rw [e1.1]
                rw [eC] at k1 k2
                have hst' := seg_step (cs := cs) (F := F) HCI.out hin HEND.out (a := a) (b := b) (by omega) HA1.out HKb.out (fun h => HA0.out (by rw [HSGE.out]; exact h)) (fun h => HB0.out (by rw [HTOT.out, HSGE.out]; exact h))
                exact ⟨_, vc', vl', vm', vs', ⟨k1.blk, k1.hc, k1.hl, k1.hm, k1.hs, k1.dis, HGP.out.below.trans k1.below⟩, cb_add HCB.out k2 (by omega) (by omega) hA', hst'⟩
              have HSG' : Hid (i + 1 ≤ x.n → sg + 1 = cnt P (i + 1)) := fun h => by
                have h3 : P i = -2 := by
                  rcases HEND.out with h1 | ⟨_, h1⟩
                  · omega
                  · exact h1
                have hc : cnt P (i + 1) = cnt P i + 1 := by show cnt P i + (if P i = -2 then 1 else 0) = _; rw [if_pos h3]
                rw [hc, HSGE.out]
              have hsg' : sg ≤ x.n := by have := HSGE.out; have := cnt_le P i; omega
              have hbx : b ≤ x.n := by have := HHB.out; omega
              clear hA HAD hsl'
              go_wp2
              go_roundw
              case rel => exact ⟨i + 1, i + 1, b, sg + 1, rfl, by go_num, by go_num, by go_num, by omega, by omega, hbx, by omega, HSG', hnx⟩
              case measure => simp [intOf]; omega
end Go.Proofs.Qxb6601041a
