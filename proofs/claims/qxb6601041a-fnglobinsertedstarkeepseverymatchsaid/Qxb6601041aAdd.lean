/-
  Seat b6601041a: (*glob).add: one run more in the glob's rows.
-/
import Derived.Test.Qxb6601041aMasks
import Derived.Deep.RegionHeld3
import Derived.Deep.RegionLaw
import Derived.Deep.RegionWith
import Derived.Deep.Cut
import Derived.Deep.CutRange
import Derived.BigQuiet
namespace Go.Proofs.Qxb6601041a
open Go.RowKit

/-- The characters but the any-ones, up to k. -/
def litsUp (C : Nat → Int) (k : Nat) : List Int := ((List.range k).map C).filter (fun c => decide (c ≠ -1))
theorem litsUp_succ (C : Nat → Int) (k : Nat) : litsUp C (k + 1) = litsUp C k ++ (if C k = -1 then [] else [C k]) := by
  unfold litsUp
  rw [List.range_succ, List.map_append, List.filter_append]
  congr 1
  by_cases h : C k = -1 <;> simp [h]
theorem litsUp_le (C : Nat → Int) (k : Nat) : (litsUp C k).length ≤ k := by
  unfold litsUp
  exact Nat.le_trans (List.length_filter_le _ _) (by simp)
theorem mem_litsUp (C : Nat → Int) (k : Nat) (c : Int) : c ∈ litsUp C k ↔ c ≠ -1 ∧ ∃ p, p < k ∧ C p = c := by
  unfold litsUp
  simp only [List.mem_filter, List.mem_map, List.mem_range, decide_eq_true_eq]
  constructor
  · rintro ⟨⟨p, h1, h2⟩, h3⟩
    exact ⟨h3, p, h1, h2⟩
  · rintro ⟨h3, p, h1, h2⟩
    exact ⟨⟨p, h1, h2⟩, h3⟩

theorem info69 : (Try.prog.info? 69).map (fun i => (i.zero, i.size, i.bytes)) = some (some (.agg #[.int .i32 0, .int .i32 0, .int .i32 0, .int .i32 0]), 4, 16) := by kernel_rfl

/-- append, kept closed: its run is laid into the walk as an equation. -/
noncomputable def apSem (ts : Array TypeId) (ty : TypeId) (args : Array Value) : Sem Value := Builtin.append_ ts ty args
theorem apSem_eq (ts : Array TypeId) (ty : TypeId) (args : Array Value) : Builtin.append_ ts ty args = apSem ts ty args := rfl
attribute [local go_sem ↓] apSem_eq

/-- Behind Compact, in the statement 'g.lits = append(g.lits[:from], slices.Compact(g.lits[from:])...)': what it gives, and what the append gives. -/
def LitsP (w : World) (gb : Nat) (wv : Value) (Cs Ls : List Int) (Ms : List Nat) (ns : Nat) (Ss : List Value) (vc vm vs : Value) (ys : List Int) (old : Value) (sh : Option Addr) (ch : Nat) (y : Sl) (e : Ending) (w3 : World) : Prop :=
  ∃ (cs : List Int) (s4 : Option Addr) (c4 : Nat) (w4 : World), e = .returned (.slice y.s cs.length y.c) ∧ cs.length ≤ ys.length ∧ (∀ x, x ∈ cs ↔ x ∈ ys) ∧ cs.Pairwise (· < ·) ∧ w3.cell? ⟨gb, 1, none⟩ = some old ∧
    (apSem #[22, 22] 22 #[.slice sh Ls.length ch, .slice y.s cs.length y.c]).run Try.prog w3 = .ok (.slice s4 (Ls.length + cs.length) c4) w4 ∧ w4.cell? ⟨gb, 1, none⟩ = some old ∧ w4.frozen? ⟨gb, 1, none⟩ = false ∧
    Hid (GP w gb wv (w4.setCell ⟨gb, 1, none⟩ (.slice s4 (Ls.length + cs.length) c4)) Cs (Ls ++ cs) Ms ns Ss vc (.slice s4 (Ls.length + cs.length) c4) vm vs)

theorem grownBy_trans {w w' w'' : World} {r : Option Nat} (h : w.grownBy w' r) (k : w'.grownBy w'' r) : w.grownBy w'' r :=
  ⟨k.os.trans h.os, k.tape.trans h.tape, k.output.trans h.output, Nat.le_trans h.size k.size, fun b hb hn => (k.block b (Nat.lt_of_lt_of_le hb h.size) hn).trans (h.block b hb hn)⟩

theorem lits_step {w w1 : World} {gb : Nat} {wv : Value} {Cs Ls : List Int} {Ms : List Nat} {ns : Nat} {Ss : List Value} {vc vl vm vs : Value} {ys : List Int} (h : GP w gb wv w1 Cs (Ls ++ ys) Ms ns Ss vc vl vm vs) {sh : Option Addr} {ch : Nat} {y : Sl} (hyn : y.n = (Ls ++ ys).length - Ls.length) (hyc : y.n ≤ y.c) (hc0 : y.s = none → y.c = 0)
    (ht : TailAt vl (Ls ++ ys).length Ls.length y) (hshb : (Value.slice sh Ls.length ch).ownBlock = vl.ownBlock) (hsho : ∀ (w' : World) (zs : List Value), w'.ownsRow (gb + 1) 21 1 vl (Ls ++ ys).length zs → w'.ownsRow (gb + 1) 21 1 (.slice sh Ls.length ch) Ls.length (zs.take Ls.length))
    (hys : ys.Pairwise (· ≤ ·)) (hbig : (Ls ++ ys).length ≤ 1073741824) : Calls Try.prog 50 #[.slice y.s y.n y.c] w1 (LitsP w gb wv Cs Ls Ms ns Ss vc vm vs ys vl sh ch y) := by
  have hown := h.hl
  rw [List.map_append] at hown
  refine (compact_tail (fr := Ls.length) hown (by simp) ht hyn hyc hc0 hys hbig).mono ?_
  rintro e w3 ⟨cs, zz, rfl, k1, k2, k3, k4, k5⟩
  have hu := hsho w3 _ k4
  rw [List.append_assoc, List.take_left' (by simp)] at hu
  have hgb : ∀ k, vl.ownBlock = some k → gb + 1 ≤ k := fun k hk => (h.hl.lt k hk).1
  have hlt := h.lt
  have hsz := k5.size
  obtain ⟨v4, w4, r1, r2, r3, r4⟩ := append_tail (fr := Ls.length) k4 (by simp) ht hyn hc0 hshb hu hbig (by omega) 22
  obtain ⟨s4, c4, rfl⟩ := owns_form r2
  have hg : w1.grownBy w4 vl.ownBlock := grownBy_trans k5 r3
  have hnew : OldOrNew w1 vl (.slice s4 (Ls.length + cs.length) c4) := by
    rcases r4 with r4 | r4
    · exact Or.inl r4
    · exact Or.inr fun g hg => Nat.le_trans hsz (r4 g hg)
  have hp := h.lits (Ls' := Ls ++ cs) (by rw [List.map_append, List.length_append]; exact r2) hg hnew
  refine ⟨cs, s4, c4, w4, rfl, k1, k2, k3, ?_, r1, ?_, ?_, hp.2⟩
  · have : w3.heap[gb]? = w1.heap[gb]? := k5.block gb hlt (fun e => by have := hgb gb e.symm; omega)
    simp [World.cell?, this, h.blk]
  · simp [World.cell?, hp.1]
  · simp [World.frozen?, hp.1]

/-- Behind add: one run more. -/
structure AddW (w : World) (gb : Nat) (wv : Value) (Cs Ls : List Int) (Ms : List Nat) (ns : Nat) (Ss : List Value) (n : Nat) (C : Nat → Int) (gap : Nat) (cs : List Int) (F : Nat → Nat) (vc vl vm vs : Value) (w' : World) : Prop where
  gp : GP w gb wv w' (Cs ++ (List.range n).map C) (Ls ++ cs) (Ms ++ (List.range ((cs.length + 1) * ((n + 63) / 64))).map F) (ns + 1) (Ss ++ [.int .i32 (gap : Nat), .int .i32 ((Cs.length + n : Nat) : Int), .int .i32 ((Ls.length + cs.length : Nat) : Int), .int .i32 ((Ms.length + (cs.length + 1) * ((n + 63) / 64) : Nat) : Int)]) vc vl vm vs
  le : cs.length ≤ n
  strict : cs.Pairwise (· < ·)
  inn : ∀ p, p < n → C p ≠ -1 → C p ∈ cs
  lt : ∀ t, F t < 18446744073709551616
  rows : ∀ k, k ≤ cs.length → RowIs C cs.length (fun i => cs[i]!) ((n + 63) / 64) F k n

def AddP (w : World) (gb : Nat) (wv : Value) (Cs Ls : List Int) (Ms : List Nat) (ns : Nat) (Ss : List Value) (n : Nat) (C : Nat → Int) (gap : Nat) (e : Ending) (w' : World) : Prop :=
  e = .returned (.tuple #[]) ∧ ∃ cs F vc vl vm vs, AddW w gb wv Cs Ls Ms ns Ss n C gap cs F vc vl vm vs w'

theorem run_append_empty {P : Program} (w : World) (base : Nat) (t ty e : TypeId) (i : TypeInfo) (size : Nat) (ht : P.underlying t = some (.slice e)) (hi : P.info? e = some i) (v : Value) (n : Nat) (xs : List Value) (hown : w.ownsRow base e size v n xs) (s : Option Addr) (c : Nat) :
    (Builtin.append_ #[t, t] ty #[v, .slice s 0 c]).run P w = .ok v w := by
  have hf : ∀ w' : World, (Builtin.firstCells i.size 0 (.slice s 0 c)).run P w' = .ok #[] w' := fun w' => by
    cases s with
    | none => simp [Builtin.firstCells]
    | some a => simp [Builtin.firstCells, loadCells, loadCellsFrom]
  rcases hown.2 with ⟨rfl, rfl⟩ | ⟨g, cap, cur, rfl, _, _, hnc, _⟩
  · simp [Builtin.append_, run_underlying ht, sizeOf, typeInfo, hi, Builtin.lenOf, hf]
  · simp [Builtin.append_, run_underlying ht, sizeOf, typeInfo, hi, Builtin.lenOf, hf, hnc, storeCells]

/-- The run's characters behind the glob's. -/
theorem app_chars {w0 w : World} {gb : Nat} {wv : Value} {Cs Ls : List Int} {Ms : List Nat} {ns : Nat} {Ss : List Value} {vc vl vm vs : Value} (h : GP w0 gb wv w Cs Ls Ms ns Ss vc vl vm vs) (x : Sl) (C : Nat → Int) (hx : Runes w x C) (b0 : x.n ≤ 4096) (b1 : Cs.length ≤ 1048576) :
    ∃ s c w', (apSem #[22, 22] 22 #[vc, .slice x.s x.n x.c]).run Try.prog w = .ok (.slice s (Cs.length + x.n) c) w' ∧ w'.cell? ⟨gb, 0, none⟩ = some vc ∧ w'.frozen? ⟨gb, 0, none⟩ = false ∧
      GP w0 gb wv (w'.setCell ⟨gb, 0, none⟩ (.slice s (Cs.length + x.n) c)) (Cs ++ (List.range x.n).map C) Ls Ms ns Ss (.slice s (Cs.length + x.n) c) vl vm vs := by
  obtain ⟨i0, hi, hz0, hz1, hz2⟩ := info_parts info21
  have hlt := h.lt
  have key : ∃ v' w', (Builtin.append_ #[22, 22] 22 #[vc, .slice x.s x.n x.c]).run Try.prog w = .ok v' w' ∧ w'.ownsRow (gb + 1) 21 1 v' (Cs.length + x.n) (Cs.map (Value.int .i32) ++ ((List.range x.n).map C).map (Value.int .i32)) ∧ w.grownBy w' vc.ownBlock ∧ OldOrNew w vc v' := by
    rcases Nat.eq_zero_or_pos x.n with h0 | h0
    · rw [h0]
      refine ⟨vc, w, run_append_empty (P := Try.prog) w (gb + 1) 22 22 21 i0 1 Try.underlying22 hi vc Cs.length _ h.hc x.s x.c, by simpa using h.hc, ⟨rfl, rfl, rfl, Nat.le_refl _, fun _ _ _ => rfl⟩, Or.inl rfl⟩
    · rw [(hx.row 0 h0).1]
      refine run_append_new (P := Try.prog) w (gb + 1) 22 22 21 i0 (.int .i32 0) 1 4 Try.underlying22 hi hz0 hz1 hz2 rfl (by decide) vc Cs.length _ h.hc ⟨x.b, x.off, none⟩ x.n x.c _ (by simp) (fun j u hj => ?_) (fun u hu => ?_) (by unfold maxLen; omega) (by omega) (by omega)
      · have hjl : j < x.n := by
          have := (List.getElem?_eq_some_iff.1 hj).1
          simpa using this
        have e1 : (⟨x.b, x.off, none⟩ : Addr).add j = ⟨x.b, x.off + j, none⟩ := by simp [Addr.add]
        rw [e1, hx.cell hjl, ← hj]
        simp [hjl]
      · obtain ⟨z, _, rfl⟩ := List.mem_map.1 hu
        rfl
  obtain ⟨v', w', h1, h2, h3, h4⟩ := key
  obtain ⟨s, c, rfl⟩ := owns_form h2
  have hp := h.chars (Cs' := Cs ++ (List.range x.n).map C) (by rw [List.map_append, List.length_append, List.length_map, List.length_range]; exact h2) h3 h4
  exact ⟨s, c, w', h1, by simp [World.cell?, hp.1], by simp [World.frozen?, hp.1], hp.2⟩

/-- The span behind the glob's spans. -/
theorem app_span {w0 w : World} {gb : Nat} {wv : Value} {Cs Ls : List Int} {Ms : List Nat} {ns : Nat} {Ss : List Value} {vc vl vm vs : Value} (h : GP w0 gb wv w Cs Ls Ms ns Ss vc vl vm vs) (a b c d : Int) (b4 : ns ≤ 1048576) :
    ∃ s k w', (apSem #[60, 60] 60 #[vs, .slice (some ⟨w.heap.size, 0, none⟩) 1 1]).run Try.prog (w.alloc (.cells #[.int .i32 a, .int .i32 b, .int .i32 c, .int .i32 d] 69)) = .ok (.slice s (ns + 1) k) w' ∧ w'.cell? ⟨gb, 3, none⟩ = some vs ∧ w'.frozen? ⟨gb, 3, none⟩ = false ∧
      GP w0 gb wv (w'.setCell ⟨gb, 3, none⟩ (.slice s (ns + 1) k)) Cs Ls Ms (ns + 1) (Ss ++ [.int .i32 a, .int .i32 b, .int .i32 c, .int .i32 d]) vc vl vm (.slice s (ns + 1) k) := by
  obtain ⟨i0, hi, hz0, hz1, hz2⟩ := info_parts info69
  have hlt := h.lt
  have ha := h.alloc (.cells #[.int .i32 a, .int .i32 b, .int .i32 c, .int .i32 d] 69)
  obtain ⟨v', w', h1, h2, h3, h4⟩ := run_append_new (P := Try.prog) (w.alloc (.cells #[.int .i32 a, .int .i32 b, .int .i32 c, .int .i32 d] 69)) (gb + 1) 60 60 69 i0 (.agg #[.int .i32 0, .int .i32 0, .int .i32 0, .int .i32 0]) 4 16 Try.underlying60 hi hz0 hz1 hz2 rfl (by decide) vs ns _ ha.hs ⟨w.heap.size, 0, none⟩ 1 1 [.int .i32 a, .int .i32 b, .int .i32 c, .int .i32 d] rfl
    (fun j u hj => by
      match j, hj with
      | 0, hj => simp at hj; subst hj; simp [Addr.add]
      | 1, hj => simp at hj; subst hj; simp [Addr.add]
      | 2, hj => simp at hj; subst hj; simp [Addr.add]
      | 3, hj => simp at hj; subst hj; simp [Addr.add])
    (fun u hu => by simp at hu; rcases hu with rfl | rfl | rfl | rfl <;> rfl) (by unfold maxLen; omega) (by omega) (by simp; omega)
  obtain ⟨s, k, rfl⟩ := owns_form h2
  have hp := ha.spans h2 h3
  exact ⟨s, k, w', h1, by simp [World.cell?, hp.1], by simp [World.frozen?, hp.1], hp.2⟩

set_option maxRecDepth 100000 in
set_option maxHeartbeats 4000000 in
theorem add_any {w : World} {gb : Nat} {wv : Value} {Cs Ls : List Int} {Ms : List Nat} {ns : Nat} {Ss : List Value} {vc vl vm vs : Value} (h : GP w gb wv w Cs Ls Ms ns Ss vc vl vm vs) (x : Sl) (C : Nat → Int) (hx : Runes w x C) (hxb : 0 < x.n → x.b < gb) (gap : Nat)
    (b0 : x.n ≤ 4096) (b1 : Cs.length ≤ 1048576) (b2 : Ls.length ≤ 1048576) (b3 : Ms.length ≤ 67108864) (b4 : ns ≤ 1048576) (b5 : gap ≤ 1048576) :
    Calls Try.prog 41 #[.pointer (some ⟨gb, 0, none⟩), .int .i64 gap, .slice x.s x.n x.c] w (AddP w gb wv Cs Ls Ms ns Ss x.n C gap) := by
  obtain ⟨i0, hi, hz0, hz1, hz2⟩ := info_parts info21
  obtain ⟨sl, cl, rfl⟩ := owns_form h.hl
  have HX := hid hx
  have HXB := hid hxb
  have HG := hid h
  have c1 := h.cell.2.1
  clear h hx hxb
  go_enter Try.func41, Try.ntmps41
  go_wp2
  clear c1
  go_loopw [26] (fun i wr => ∃ k : Nat, i = .int .i64 k ∧ k ≤ x.n ∧ ∃ vl', Hid (GP w gb wv wr Cs (Ls ++ litsUp C k) Ms ns Ss vc vl' vm vs)) (fun i _ => x.n - (intOf i).toNat)
  case atStart => exact ⟨0, rfl, Nat.zero_le _, _, by simpa [litsUp, Hid] using HG.out⟩
  case round =>
    obtain ⟨k, rfl, hk, vl', HGk⟩ := hrel
    by_cases hlt : k < x.n
    · have hix := idx22 HX.out k hlt
      have hc : wr.cell? ⟨x.b, x.off + k, none⟩ = some (.int .i32 (C k)) := by
        rw [HGk.out.below.cell (p := ⟨x.b, x.off + k, none⟩) (HXB.out (by omega))]
        exact HX.out.cell hlt
      by_cases hC : C k = -1
      · have hCb : (C k != -1) = false := by simp [hC]
        have HLU := hid (litsUp_succ C k)
        go_wp2
        go_roundw
        case rel => exact ⟨k + 1, by go_num, by omega, vl', by rw [HLU.out, if_pos hC, List.append_nil]; exact HGk⟩
        case measure => simp [intOf]; omega
      · have hCb : (C k != -1) = true := by simp [hC]
        obtain ⟨s', c', rfl⟩ := owns_form HGk.out.hl
        have HLU := hid (litsUp_succ C k)
        have hlen : (Ls ++ litsUp C k).length ≤ 1048576 + 4096 := by have := litsUp_le C k; simp; omega
        have hlt' := HGk.out.lt
        obtain ⟨v2, w2, hr, ho, hg, hn⟩ := run_append_new (P := Try.prog) (wr.alloc (.cells #[.int .i32 (C k)] 21)) (gb + 1) 22 22 21 i0 (.int .i32 0) 1 4 Try.underlying22 hi hz0 hz1 hz2 rfl (by decide) _ _ _ (HGk.out.alloc (.cells #[.int .i32 (C k)] 21)).hl ⟨wr.heap.size, 0, none⟩ 1 1 [.int .i32 (C k)] rfl
          (fun j u hj => by
            match j, hj with
            | 0, hj => simp at hj; subst hj; simp [Addr.add])
          (fun u hu => by simp at hu; subst hu; rfl) (by unfold maxLen; omega) (by omega) (by simp; omega)
        obtain ⟨s2, c2, rfl⟩ := owns_form ho
        have hp := (HGk.out.alloc (.cells #[.int .i32 (C k)] 21)).lits (v' := .slice s2 ((Ls ++ litsUp C k).length + 1) c2) (Ls' := Ls ++ litsUp C (k + 1)) (by rw [HLU.out, if_neg hC, ← List.append_assoc, List.map_append, show (Ls ++ litsUp C k ++ [C k]).length = (Ls ++ litsUp C k).length + 1 from List.length_append]; exact ho) hg hn
        have hce : w2.cell? ⟨gb, 1, none⟩ = some (.slice s' (Ls ++ litsUp C k).length c') := by simp [World.cell?, hp.1]
        have hfz : w2.frozen? ⟨gb, 1, none⟩ = false := by simp [World.frozen?, hp.1]
        have HP := hid hp.2
        have cc := HGk.out.cell.2.1
        obtain ⟨N, hN⟩ : ∃ N, N = (Ls ++ litsUp C k).length := ⟨_, rfl⟩
        rw [← hN] at cc hce HP hr
        have HR := hid hr
        clear hr ho hg hn hp hN hlen
        go_wp2_with (at_builtin; refine Lib.wpList_append_run _ rfl (.tmp 36) (.tmp 38) 22 22 rfl _ _ rfl rfl (.slice s2 (N + 1) c2) w2 HR.out ?_)
        go_roundw
        case rel => exact ⟨k + 1, by go_num, by omega, _, HP⟩
        case measure => simp [intOf]; omega
    · obtain rfl : k = x.n := by omega
      clear hlt hk
      obtain ⟨s1, c1, rfl⟩ := owns_form HGk.out.hl
      have hlen : (Ls ++ litsUp C x.n).length ≤ 1048576 + 4096 := by have := litsUp_le C x.n; simp; omega
      obtain ⟨y, hyn, hyc, hc0, hsl, htail⟩ := slice_tail HGk.out.hl (fr := Ls.length) (by simp) (by omega)
      have cc := HGk.out.cell.2.1
      obtain ⟨N, hN⟩ : ∃ N, N = (Ls ++ litsUp C x.n).length := ⟨_, rfl⟩
      have hNl : N = Ls.length + (litsUp C x.n).length := by rw [hN]; simp
      have hsort := hid (sort_tail HGk.out.hl htail hyn hc0 (litsUp C x.n) (by rw [List.map_append]; exact List.drop_left' (by simp)) (by simp) (by omega))
      rw [← hN] at cc hsl hsort
      have HNL := hid hNl
      have HN := hid hN
      have HT := hid htail
      have HYN := hid hyn
      clear hN hNl htail hyn hlen
      go_upto_region 8 with (go_at_call 49; refine hsort.out.mono ?_; rintro e w1 ⟨rfl, ys, hyl, hym, hys, hyo, hyg⟩)
      have hG1 : GP w gb wv w1 Cs (Ls ++ ys) Ms ns Ss vc (.slice s1 N c1) vm vs := by
        have h1 := HGk.out
        rw [← HN.out] at h1
        refine h1.litsIn ?_ hyg
        have e1 : (Ls ++ ys).length = N := by rw [HNL.out, ← hyl]; simp
        rw [e1, List.map_append]
        rw [List.map_append, List.take_left' (by simp)] at hyo
        exact hyo
      have hNY : N = (Ls ++ ys).length := by rw [HNL.out, ← hyl]; simp
      have hN5 : N ≤ 1048576 + 4096 := by have := litsUp_le C x.n; have := HNL.out; omega
      obtain ⟨sh, ch, hsh, hshb, hsho⟩ := slice_head (fr := Ls.length) hG1.hl (by simp)
      have hyn := HYN.out
      have htl := HT.out
      rw [← HN.out] at hyn htl
      rw [hNY] at hyn htl
      have HC : Hid (∀ q, Calls Try.prog 50 #[.slice y.s y.n y.c] (w1.drewN q) (LitsP w gb wv Cs Ls Ms ns Ss vc vm vs ys (.slice s1 N c1) sh ch y)) := fun q => by
        rw [hNY] at hG1 hshb hsho ⊢
        exact lits_step (hG1.drewN q) hyn hyc hc0 htl hshb hsho hys (by omega)
      have cc1 := hG1.cell.2.1
      have HL1 := hid hyl
      have HM1 := hid hym
      clear hG1 hNY hyn htl hshb hsho hyl hym hys hyo hyg hsort hc0 hyc
      go_cut [6] from 50 (fun s6 wx => s6 = .int .i64 Ls.length ∧ ∃ (cs : List Int) (v4 : Value), Hid (cs.length ≤ ys.length ∧ (∀ z, z ∈ cs ↔ z ∈ ys) ∧ cs.Pairwise (· < ·)) ∧ Hid (GP w gb wv wx Cs (Ls ++ cs) Ms ns Ss vc v4 vm vs))
      case first =>
        go_region_with (go_at_call 50; refine (HC.out 1).mono ?_; rintro e w3 ⟨cs, s4, c4, w4, rfl, k1, k2, k3, k4, k5, k6, k7, k8⟩)
        all_goals (go_wp2_with fail; go_meet; exact ⟨rfl, cs, _, hid ⟨k1, k2, k3⟩, k8⟩)
      case rest =>
        obtain ⟨rfl, cs, v4, HCS, HG4⟩ := hcut
        clear HC hsh cc1 hsl cc HT HYN HN hN5
        obtain ⟨s4, c4, rfl⟩ := owns_form HG4.out.hl
        have hcl : cs.length ≤ 4096 := by have := litsUp_le C x.n; have := HL1.out; have := HCS.out.1; omega
        have hl4 : (Ls ++ cs).length = Ls.length + cs.length := by simp
        obtain ⟨l, hln, _, _, hsl, htail⟩ := slice_tail HG4.out.hl (fr := Ls.length) (by simp) (by omega)
        have cc := HG4.out.cell.2.1
        have cm := HG4.out.cell.2.2.1
        rw [hl4] at hln htail hsl cc
        have HTL := hid htail
        clear htail
        have hln' : l.n = cs.length := by omega
        have hlb : l.n ≤ 4096 := by omega
        obtain ⟨wd, hwd⟩ : ∃ wd, wd = (x.n + 63) / 64 := ⟨_, rfl⟩
        have hwdI : ((x.n : Int) + 63) / 64 = (wd : Int) := by omega
        have hwdb : wd ≤ 65 := by omega
        obtain ⟨K, hK⟩ : ∃ K, K = (l.n + 1) * wd := ⟨_, rfl⟩
        have hKI : ((l.n : Int) + 1) * (wd : Int) = (K : Int) := by rw [hK]; simp
        have hKb : K ≤ 4097 * 65 := by rw [hK]; exact Nat.mul_le_mul (by omega) hwdb
        obtain ⟨i5, hi5, hy0, hy1, hy2⟩ := info_parts info65
        have hlt4 := HG4.out.lt
        obtain ⟨v5, w5, hr5, ho5, hg5, hn5⟩ := run_append_zeros (P := Try.prog) wc (gb + 1) 45 3 45 65 i5 (.int .u64 0) .i64 .i64 8 Try.underlying45 Try.underlying3 hi5 hy0 hy1 hy2 rfl rfl vm Ms.length _ HG4.out.hm K (by unfold maxLen; omega) (by omega) (by omega)
        obtain ⟨s5, c5, rfl⟩ := owns_form ho5
        have hp5 := HG4.out.masks (Ms' := Ms ++ List.replicate K 0) (by rw [List.map_append, List.length_append, List.length_replicate, List.map_replicate]; exact ho5) hg5
        have hce5 : w5.cell? ⟨gb, 2, none⟩ = some vm := by simp [World.cell?, hp5.1]
        have hfz5 : w5.frozen? ⟨gb, 2, none⟩ = false := by simp [World.frozen?, hp5.1]
        have HP5 := hid hp5.2
        have hr5' : (apSem #[45, 3] 45 #[vm, .int .i64 K]).run Try.prog wc = .ok (.slice s5 (Ms.length + K) c5) w5 := hr5
        have HLN := hid hln'
        have HWD := hid hwd
        have HK := hid hK
        have HLN2 := hid hln
        clear hr5 ho5 hg5 hn5 hp5 hln' hwd hK hln hl4 hcl
        go_upto_region 12 with fail
        rw [hwdI]
        revert HP5
        generalize w5.setCell ⟨gb, 2, none⟩ (.slice s5 (Ms.length + K) c5) = w6
        intro HP5
        clear hce5 hfz5 hr5' hsl cc cm hwdI
        have hml : (Ms ++ List.replicate K 0).length = Ms.length + K := by simp
        have hm6 := HP5.out.hm
        rw [hml] at hm6
        obtain ⟨m, hmn, _, hmc0, hsm, hmt⟩ := slice_tail45 hm6 (fr := Ms.length) (by omega) (by omega)
        have HMT := hid hmt
        clear hmt
        have HMN := hid (show m.n = K by omega)
        clear hml hm6 hmn hmc0
        have cm6 := HP5.out.cell.2.2.1
        go_quiet (fail)
        revert HP5
        generalize hw7 : w6.drewN nq = w7
        intro HP5
        have HP7 : Hid (GP w gb wv w7 Cs (Ls ++ cs) (Ms ++ List.replicate K 0) ns Ss vc (.slice s4 (Ls ++ cs).length c4) (.slice s5 (Ms.length + K) c5) vs) := by rw [← hw7]; exact hid (HP5.out.drewN nq)
        clear hw7 cm6 hsm HP5 hKI
        go_wp2
        have HLR : Hid (∀ wx vl' Mx, GP w gb wv wx Cs (Ls ++ cs) Mx ns Ss vc vl' (.slice s5 (Ms.length + K) c5) vs → vl' = .slice s4 (Ls ++ cs).length c4 → Runes wx l (fun i => cs[i]!)) := fun wx vl' Mx hgp he => by
          subst he
          have h1 := hgp.hl
          have e1 : (Ls ++ cs).length = Ls.length + cs.length := by simp
          have e2 : (Ls ++ cs).map (Value.int .i32) = Ls.map (Value.int .i32) ++ (List.range cs.length).map (fun i => Value.int .i32 cs[i]!) := by
            rw [List.map_append]
            congr 1
            apply List.ext_getElem?
            intro j
            by_cases hj : j < cs.length
            · simp [hj]
            · simp [hj]
          rw [e1, e2] at h1
          exact tail_has h1 (by simp) HTL.out HLN2.out (by have := HLN.out; omega)
        go_loopw [108] (fun a wr => ∃ (i : Nat) (F : Nat → Nat), a = .int .i64 i ∧ i ≤ x.n ∧ Hid (GP w gb wv wr Cs (Ls ++ cs) (Ms ++ (List.range K).map F) ns Ss vc (.slice s4 (Ls ++ cs).length c4) (.slice s5 (Ms.length + K) c5) vs) ∧
          Hid (∀ t, F t < 18446744073709551616) ∧ Hid (∀ k, k ≤ l.n → RowIs C l.n (fun i => cs[i]!) wd F k i)) (fun a _ => x.n - (intOf a).toNat)
        case atStart =>
          refine ⟨0, fun _ => 0, rfl, Nat.zero_le _, ?_, hid (fun _ => (by decide : (0 : Nat) < 18446744073709551616)), hid (fun k _ => row_zero _ _ _ _ _ _ (fun _ _ => rfl))⟩
          have e : (List.range K).map (fun _ => 0) = List.replicate K 0 := by rw [List.map_const', List.length_range]
          rw [e]
          exact HP7
        case round =>
          obtain ⟨i, F, rfl, hix0, HGF, HFL, HRW⟩ := hrel
          by_cases hix1 : i < x.n
          · have hix := idx22 HX.out i hix1
            have hc : wr.cell? ⟨x.b, x.off + i, none⟩ = some (.int .i32 (C i)) := by
              rw [HGF.out.below.cell (p := ⟨x.b, x.off + i, none⟩) (HXB.out (by omega))]
              exact HX.out.cell hix1
            obtain ⟨wi, hwi⟩ : ∃ wi, wi = i / 64 := ⟨_, rfl⟩
            have hwiI : (i : Int) / 64 = (wi : Int) := by omega
            obtain ⟨T, hT⟩ : ∃ T : Nat, T = 2 ^ (i % 64) := ⟨_, rfl⟩
            have hTw : IntKind.u64.wrap (2 ^ (i % 64)) = (T : Int) := by rw [hT]; exact wrap_pow i
            have hTl := hid (show T < 18446744073709551616 by rw [hT]; exact pow_lt64 i)
            have HWI := hid (show i / 64 = wi from hwi.symm)
            have HTE := hid hT
            have hwlt : wi < wd := by have := HWD.out; omega
            clear hwi hT
            go_upto_region 16 with fail
            go_quiet (fail)
            rw [hTw]
            generalize hwq : wr.drewN nq = wq
            have HGq : Hid (GP w gb wv wq Cs (Ls ++ cs) (Ms ++ (List.range K).map F) ns Ss vc (.slice s4 (Ls ++ cs).length c4) (.slice s5 (Ms.length + K) c5) vs) := by rw [← hwq]; exact hid (HGF.out.drewN nq)
            clear hwq hTw hwiI hix hc HGF
            have hkey : ∀ kk, kk ≤ l.n → kk * wd + wi < K := fun kk hkk => by
              have h1 := HK.out
              have h2 := Nat.mul_le_mul_right wd hkk
              rw [Nat.add_mul, Nat.one_mul] at h1
              omega
            have HKEY := hid hkey
            clear hkey
            by_cases hC : C i = -1
            · have hCb : (C i != -1) = false := by simp [hC]
              go_wp2
              go_loopw [140] (fun a wx => ∃ (kk : Nat) (F' : Nat → Nat), a = .int .i64 kk ∧ kk ≤ l.n + 1 ∧ Hid (GP w gb wv wx Cs (Ls ++ cs) (Ms ++ (List.range K).map F') ns Ss vc (.slice s4 (Ls ++ cs).length c4) (.slice s5 (Ms.length + K) c5) vs) ∧
                Hid (∀ t, F' t < 18446744073709551616) ∧ Hid (∀ k, k ≤ l.n → RowIs C l.n (fun i => cs[i]!) wd F' k (if k < kk then i + 1 else i))) (fun a _ => l.n + 1 - (intOf a).toNat)
              case atStart => exact ⟨0, F, rfl, Nat.zero_le _, HGq, HFL, hid (fun k hk => by rw [if_neg (Nat.not_lt_zero _)]; exact HRW.out k hk)⟩
              case round =>
                obtain ⟨kk, F', rfl, hkk, HGx, HFx, HRx⟩ := hrel
                by_cases hkl : kk < l.n + 1
                · obtain ⟨P, hP⟩ : ∃ P, P = kk * wd := ⟨_, rfl⟩
                  have hPI : (kk : Int) * (wd : Int) = (P : Int) := by rw [hP]; simp
                  have hPK : P + wi < K := by rw [hP]; exact HKEY.out kk (by omega)
                  have hmh := masks_has HGx.out HMT.out HMN.out (by omega)
                  have hix := idx45 hmh (P + wi) (by have := HMN.out; omega)
                  rw [Int.natCast_add] at hix
                  have hce := hmh.cell (i := P + wi) (by have := HMN.out; omega)
                  have hor := bits_or_u64_nat (F' (P + wi)) T (HFx.out _) hTl.out
                  have hst := masks_store HGx.out HMT.out HMN.out hPK (F' (P + wi) ||| T)
                  have hfz := hst.1
                  have HST := hid hst.2
                  have HRN : Hid (∀ k, k ≤ l.n → RowIs C l.n (fun i => cs[i]!) wd (upd F' (P + wi) (F' (P + wi) ||| T)) k (if k < kk + 1 then i + 1 else i)) := fun k hk => by
                    have h1 := HRx.out k hk
                    rw [hP, HTE.out, ← HWI.out]
                    by_cases hkk' : k = kk
                    · subst hkk'
                      rw [if_neg (Nat.lt_irrefl _)] at h1
                      rw [if_pos (by omega)]
                      exact row_set h1 (Or.inl hC)
                    · have e : (if k < kk then i + 1 else i) = (if k < kk + 1 then i + 1 else i) := by split <;> split <;> omega
                      rw [e] at h1
                      exact row_other h1 kk (i / 64) _ hkk' (by rw [HWI.out]; exact hwlt)
                  have HFN : Hid (∀ t, upd F' (P + wi) (F' (P + wi) ||| T) t < 18446744073709551616) := fun t => by
                    unfold upd
                    split
                    · exact or_lt64 (HFx.out _) hTl.out
                    · exact HFx.out t
                  have hPb : P ≤ 4097 * 65 := by omega
                  clear hmh hst hP
                  go_wp2
                  go_roundw
                  case rel => exact ⟨kk + 1, _, by go_num, by omega, HST, HFN, HRN⟩
                  case measure => simp [intOf]; omega
                · obtain rfl : kk = l.n + 1 := by omega
                  have HRE : Hid (∀ k, k ≤ l.n → RowIs C l.n (fun i => cs[i]!) wd F' k (i + 1)) := fun k hk => by
                    have := HRx.out k hk
                    rwa [if_pos (by omega)] at this
                  go_wp2
                  go_roundw
                  case rel => exact ⟨i + 1, F', by go_num, by omega, HGx, HFx, HRE⟩
                  case measure => simp [intOf]; omega
            · have hCb : (C i != -1) = true := by simp [hC]
              have hlr := HLR.out _ _ _ HGq.out rfl
              have hstrict : ∀ a b, a < b → b < l.n → cs[a]! < cs[b]! := fun a b hab hb => by
                have hb' : b < cs.length := by have := HLN.out; omega
                have := (List.pairwise_iff_getElem.1 HCS.out.2.2) a b (by omega) hb' hab
                simpa [getElem!_pos, hb', show a < cs.length by omega] using this
              have HBS := hid (bsearch_any l (fun i => cs[i]!) (C i) wq hlr (by omega) hstrict)
              have HST := hid hstrict
              clear hlr hstrict
              go_upto_region 19 with (go_at_call 51; refine HBS.out.mono ?_; rintro e w' ⟨k0, found, rfl, rfl, hk0, hf0⟩)
              have hfd : k0 < l.n ∧ cs[k0]! = C i := by
                rcases hf0 with ⟨_, h1, h2⟩ | ⟨_, h1⟩
                · exact ⟨h1, h2⟩
                · exfalso
                  have hmem : C i ∈ cs := (HCS.out.2.1 _).2 ((HM1.out _).2 ((mem_litsUp C x.n (C i)).2 ⟨hC, i, hix1, rfl⟩))
                  obtain ⟨j, hj, hj2⟩ := List.getElem_of_mem hmem
                  exact h1 j (by have := HLN.out; omega) (by simp only [getElem!_pos, hj]; exact hj2)
              have HFD := hid hfd
              clear hf0 hfd
              obtain ⟨P, hP⟩ : ∃ P, P = k0 * wd := ⟨_, rfl⟩
              have hPI : (k0 : Int) * (wd : Int) = (P : Int) := by rw [hP]; simp
              have hPK : P + wi < K := by rw [hP]; exact HKEY.out k0 (by omega)
              have hmh := masks_has HGq.out HMT.out HMN.out (by omega)
              have hix := idx45 hmh (P + wi) (by have := HMN.out; omega)
              rw [Int.natCast_add] at hix
              have hce := hmh.cell (i := P + wi) (by have := HMN.out; omega)
              have hor := bits_or_u64_nat (F (P + wi)) T (HFL.out _) hTl.out
              have hst := masks_store HGq.out HMT.out HMN.out hPK (F (P + wi) ||| T)
              have hfz := hst.1
              have HSTO := hid hst.2
              have HRN : Hid (∀ k, k ≤ l.n → RowIs C l.n (fun i => cs[i]!) wd (upd F (P + wi) (F (P + wi) ||| T)) k (i + 1)) := fun k hk => by
                have h1 := HRW.out k hk
                rw [hP, HTE.out, ← HWI.out]
                by_cases hkk' : k = k0
                · subst hkk'
                  exact row_set h1 (Or.inr ⟨HFD.out.1, HFD.out.2.symm⟩)
                · refine row_pass (row_other h1 k0 (i / 64) _ hkk' (by rw [HWI.out]; exact hwlt)) ?_
                  rintro (h2 | ⟨h2, h3⟩)
                  · exact hC h2
                  · have h4 : cs[k]! = cs[k0]! := h3.symm.trans HFD.out.2.symm
                    rcases Nat.lt_or_gt_of_ne hkk' with h5 | h5
                    · have := HST.out k k0 h5 HFD.out.1
                      omega
                    · have := HST.out k0 k h5 h2
                      omega
              have HFN : Hid (∀ t, upd F (P + wi) (F (P + wi) ||| T) t < 18446744073709551616) := fun t => by
                unfold upd
                split
                · exact or_lt64 (HFL.out _) hTl.out
                · exact HFL.out t
              have hPb : P ≤ 4097 * 65 := by omega
              clear hmh hst hP
              go_wp2
              go_roundw
              case rel => exact ⟨i + 1, _, by go_num, by omega, HSTO, HFN, HRN⟩
              case measure => simp [intOf]; omega
          · obtain rfl : i = x.n := by omega
            clear hix0 hix1
            have hxr : Runes wr x C := HX.out.kept (fun h0 => HGF.out.below.block _ (HXB.out h0))
            obtain ⟨s8, c8, w8, hr8, hce8, hfz8, hG8⟩ := app_chars HGF.out x C hxr b0 b1
            have HG8 := hid hG8
            have c0 := HGF.out.cell.1
            clear hxr hG8
            go_upto_region 27 with fail
            revert HG8
            generalize w8.setCell ⟨gb, 0, none⟩ (.slice s8 (Cs.length + x.n) c8) = w9
            intro HG8
            clear hr8 hce8 hfz8 c0
            have hl9 : (Ls ++ cs).length = Ls.length + cs.length := by simp
            obtain ⟨s10, c10, w10, hr10, hce10, hfz10, hG10⟩ := app_span HG8.out.drew (gap : Nat) ((Cs.length + x.n : Nat) : Int) ((Ls.length + cs.length : Nat) : Int) ((Ms.length + K : Nat) : Int) b4
            have HG10 := hid hG10
            have q0 := HG8.out.cell.1
            have q1 := HG8.out.cell.2.1
            have q2 := HG8.out.cell.2.2.1
            have q3 := HG8.out.cell.2.2.2
            rw [hl9] at q1
            have hcsb : cs.length ≤ 4096 := by have := HLN.out; omega
            have hlt9 := HG8.out.lt
            have hr10' : (apSem #[60, 60] 60 #[vs, .slice (some ⟨w9.heap.size, 0, none⟩) 1 1]).run Try.prog (w9.alloc (.cells #[.int .i32 (gap : Int), .int .i32 ((Cs.length : Int) + x.n), .int .i32 ((Ls.length : Int) + cs.length), .int .i32 ((Ms.length : Int) + K)] 69)).drew = .ok (.slice s10 (ns + 1) c10) w10 := by
              have := hr10
              rw [Int.natCast_add, Int.natCast_add, Int.natCast_add] at this
              exact this
            clear hG10 hl9 hr10
            go_region
            go_end0
            have eK : K = (cs.length + 1) * ((x.n + 63) / 64) := by rw [HK.out, HLN.out, HWD.out]
            have hgp := HG10.out
            rw [eK] at hgp
            have hrw := HRW.out
            rw [HLN.out, HWD.out] at hrw
            refine ⟨rfl, cs, F, _, _, _, _, ⟨hgp, ?_, HCS.out.2.2, fun p hp hne => (HCS.out.2.1 _).2 ((HM1.out _).2 ((mem_litsUp C x.n (C p)).2 ⟨hne, p, hp, rfl⟩)), HFL.out, hrw⟩⟩
            have h1 := litsUp_le C x.n
            have h2 := HL1.out
            have h3 := HCS.out.1
            omega
end Go.Proofs.Qxb6601041a
