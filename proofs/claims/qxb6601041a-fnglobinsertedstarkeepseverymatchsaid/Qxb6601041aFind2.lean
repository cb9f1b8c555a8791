/-
  Seat b6601041a: ZZFind: the search of one run of a glob in a folded value.
-/
import Derived.Test.Qxb6601041aRuns
import Derived.Test.Qxb6601041aFindB
namespace Go.Proofs.Qxb6601041a
open Go.RowKit

set_option maxRecDepth 100000 in
set_option maxHeartbeats 2000000 in
theorem find_empty2 {D : Dat} {w : World} {sv : Value} (f1 : w.cell? ⟨D.rb, 1, none⟩ = some (.slice D.x.s D.x.n D.x.c)) (hf : Fold w D.fb D.y D.z D.V D.W) (h0 : D.x.n = 0) (hW : FindW w D.fb (.slice D.y.s D.y.n D.y.c) (.slice D.z.s D.z.n D.z.c) sv w) (fr : Nat) (st en : Bool) :
    Calls Try.prog 39 #[.pointer (some ⟨D.rb, 0, none⟩), .pointer (some ⟨D.fb, 0, none⟩), .int .i64 fr, .bool st, .bool en] w (FindP D fr st en w sv) := by
  have v0 := hf.f0
  have hbig : D.y.n ≤ 1048576 := hf.big
  have HE := hid hf
  have HW := hid hW
  have HP : Hid (∀ k ok, Found 0 D.C D.y.n D.V D.W fr st en k ok → Found D.x.n D.C D.y.n D.V D.W fr st en k ok) := by rw [h0]; exact fun _ _ h => h
  rw [h0] at f1
  clear hf hW h0
  go_enter Try.func39, Try.ntmps39
  go_wp2
  go_loop [13] (fun a => ∃ i : Nat, a = .int .i64 i ∧ fr ≤ i ∧ (i ≤ D.y.n + 1 ∨ i = fr) ∧ Hid (∀ s, Good 0 D.C D.y.n D.V D.W fr st en s → i ≤ s)) (fun a => D.y.n + 1 - (intOf a).toNat)
  case atStart => exact ⟨fr, rfl, Nat.le_refl _, Or.inr rfl, fun s hs => hs.fr⟩
  obtain ⟨i, rfl, hi, hior, HG⟩ := hrel
  by_cases hle : i ≤ D.y.n
  · have hb := fun w' hw => begins_any (V := D.V) (hw : Fold w' D.fb D.y D.z D.V D.W) i hle
    have he := fun w' hw => ends_any (V := D.V) (hw : Fold w' D.fb D.y D.z D.V D.W) i hle
    have HB := hid hb
    have HN := hid he
    clear hb he hior
    have HI := hid hi
    cases hb1 : begB D.W i <;> cases hb2 : finB D.y.n D.W i <;> cases st <;> cases en
    all_goals go_wp2_with (first | (go_at_call 44; refine (HB.out _ HE.out).mono ?_; rintro e w' ⟨rfl, rfl⟩) | (go_at_call 45; refine (HN.out _ HE.out).mono ?_; rintro e w' ⟨rfl, rfl⟩))
    all_goals first
      | (refine bodyPost_ret (by simp [results, Try.results39, go_sem]; try rfl) rfl ?_
         exact FindP.mk (HP.out _ _ (Or.inl ⟨rfl, i, good_empty HI.out hle (by simp [hb1]) (by simp [hb2]), by simp, HG.out⟩)) HW.out)
      | (go_round
         case rel =>
           refine ⟨i + 1, by go_num, by omega, by omega, fun s hs => ?_⟩
           have h1 := HG.out s hs
           rcases Nat.lt_or_ge i s with h2 | h2
           · exact h2
           · exfalso
             obtain rfl : s = i := by omega
             have h3 := hs.st
             have h4 := hs.en
             rw [Nat.add_zero] at h4
             simp [← begB_iff, ← finB_iff, hb1, hb2] at h3 h4
         case measure => simp [intOf]; omega)
  · go_wp2
    refine bodyPost_ret (by simp [results, Try.results39, go_sem]; try rfl) rfl ?_
    exact FindP.mk (HP.out _ _ (Or.inr ⟨rfl, rfl, fun s hs => by have h1 := HG.out s hs; have h2 := hs.le; omega⟩)) HW.out

/-- The folded value at fb: characters y, word marks z, scratch sv. -/
structure FoldB (w : World) (fb : Nat) (y z : Sl) (V : Nat → Int) (W : Nat → Bool) (sv : Value) : Prop where
  blk : w.heap[fb]? = some (.cells #[.slice y.s y.n y.c, .slice z.s z.n z.c, sv] 52 (0, 0))
  scr : Scr w fb sv
  hy : Runes w y V
  hz : Bools w z W
  len : z.n = y.n
  cap : y.n ≤ y.c
  big : y.n ≤ 1048576
  yb : 0 < y.n → y.b < fb
  zb : 0 < z.n → z.b < fb

theorem FoldB.lt {w : World} {fb : Nat} {y z : Sl} {V : Nat → Int} {W : Nat → Bool} {sv : Value} (h : FoldB w fb y z V W sv) : fb < w.heap.size := (Array.getElem?_eq_some_iff.1 h.blk).1

theorem Scr.kept {w w' : World} {fb : Nat} {sv : Value} (h : Scr w fb sv) (hb : ∀ b, sv.ownBlock = some b → w'.heap[b]? = w.heap[b]?) : Scr w' fb sv := by
  rcases h with rfl | ⟨sb, sn, sc, cur, rfl, h1, h2, h3⟩
  · exact Or.inl rfl
  · exact Or.inr ⟨sb, sn, sc, cur, rfl, h1, by rw [hb sb rfl]; exact h2, h3⟩
theorem Scr.lt {w : World} {fb : Nat} {sv : Value} (h : Scr w fb sv) : ∀ b, sv.ownBlock = some b → fb < b ∧ b < w.heap.size := by
  intro b hb
  rcases h with rfl | ⟨sb, sn, sc, cur, rfl, h1, h2, _⟩
  · cases hb
  · simp [Value.ownBlock] at hb
    subst hb
    exact ⟨h1, (Array.getElem?_eq_some_iff.1 h2).1⟩

theorem FoldB.below {w w' : World} {fb : Nat} {y z : Sl} {V : Nat → Int} {W : Nat → Bool} {sv : Value} (h : FoldB w fb y z V W sv) (hb : Below w.heap.size w w') : FoldB w' fb y z V W sv :=
  ⟨by rw [hb.block _ h.lt]; exact h.blk, h.scr.kept (fun b hs => hb.block _ (h.scr.lt b hs).2), h.hy.below hb, h.hz.below hb, h.len, h.cap, h.big, h.yb, h.zb⟩

/-- A block of another kind is another block. -/
theorem own_ne_block {w : World} {base : Nat} {e t : TypeId} {size : Nat} {v : Value} {n : Nat} {xs : List Value} (h : w.ownsRow base e size v n xs) {b : Nat} {cs : Array Value} (hb : w.heap[b]? = some (.cells cs t (0, 0))) (hne : e ≠ t) : ∀ g, v.ownBlock = some g → g ≠ b := by
  intro g hg e1
  subst e1
  rcases h.2 with ⟨rfl, _⟩ | ⟨g', cap, cur, rfl, _, hg', _⟩
  · cases hg
  · simp [Value.ownBlock] at hg
    subst hg
    rw [hg'] at hb
    cases hb
    exact hne rfl
theorem own_ne_scr {w : World} {base : Nat} {e : TypeId} {size : Nat} {v : Value} {n : Nat} {xs : List Value} (h : w.ownsRow base e size v n xs) {fb : Nat} {sv : Value} (hs : Scr w fb sv) (hne : e ≠ 65) : ∀ g, v.ownBlock = some g → sv.ownBlock ≠ some g := by
  intro g hg e1
  rcases hs with rfl | ⟨sb, sn, sc, cur, rfl, h1, h2, _⟩
  · cases e1
  · simp [Value.ownBlock] at e1
    subst e1
    exact own_ne_block h h2 hne _ hg rfl

theorem FindW.after {w w2 w3 : World} {fb : Nat} {xv yv sv : Value} (h : FindW w2 fb xv yv sv w3) (hb : Below w.heap.size w w2) : FindW w fb xv yv sv w3 := by
  obtain ⟨sv', h1, h2, h3⟩ := h.fold
  have hs := hb.size
  refine ⟨⟨sv', h1, h2, ?_⟩, h.os.trans hb.os, h.tape.trans hb.tape, h.output.trans hb.output, Nat.le_trans hs h.size, fun k hk h4 h5 => ?_⟩
  · rcases h3 with h3 | h3
    · exact Or.inl h3
    · exact Or.inr fun b hb' => Nat.le_trans hs (h3 b hb')
  · rw [h.block k (Nat.lt_of_lt_of_le hk hs) h4 h5]
    exact hb.block k hk

def ZFindP (n m : Nat) (C V : Nat → Int) (W : Nat → Bool) (fb : Nat) (xv yv sv : Value) (fr : Nat) (st en : Bool) (w : World) (e : Ending) (w' : World) : Prop :=
  ∃ (k : Int) (ok : Bool), e = .returned (.tuple #[.int .i64 k, .bool ok]) ∧ Found m C n V W fr st en k ok ∧ FindW w fb xv yv sv w'

/-- find, behind run: the run's value in a block of its own. -/
theorem find_run {w0 w : World} {gb : Nat} {wv : Value} {Cs Ls : List Int} {Ms : List Nat} {ns : Nat} {Ss : List Value} {vc vl vm vs : Value} (h : GP w0 gb wv w Cs Ls Ms ns Ss vc vl vm vs) {r : RunV} (hok : ROk r) {x l m : Sl} (hs : RunSl w vc vl vm r x l m)
    {fb : Nat} {y z : Sl} {V : Nat → Int} {W : Nat → Bool} {sv : Value} (hf : FoldB w fb y z V W sv) (hvm : ∀ b, vm.ownBlock = some b → sv.ownBlock ≠ some b)
    {w2 : World} {rb : Nat} (hb : Below w.heap.size w w2) (hrb : w.heap.size ≤ rb) (hrun : w2.heap[rb]? = some (.cells #[.int .i64 (r.gap : Nat), .slice x.s x.n x.c, .int .i64 (((x.n + 63) / 64 : Nat) : Int), .slice l.s l.n l.c, .slice m.s m.n m.c] 56 (0, 0))) (fr : Nat) (st en : Bool) :
    Calls Try.prog 39 #[.pointer (some ⟨rb, 0, none⟩), .pointer (some ⟨fb, 0, none⟩), .int .i64 fr, .bool st, .bool en] w2 (ZFindP y.n r.C.length (fun p => r.C[p]!) V W fb (.slice y.s y.n y.c) (.slice z.s z.n z.c) sv fr st en w2) := by
  have hf2 := hf.below hb
  have hrlt : rb < w2.heap.size := (Array.getElem?_eq_some_iff.1 hrun).1
  have c1 : w2.cell? ⟨rb, 1, none⟩ = some (.slice x.s x.n x.c) := by simp [World.cell?, hrun]
  have hfold : Fold w2 fb y z V W := ⟨by simp [World.cell?, hf2.blk], by simp [World.cell?, hf2.blk], hf2.hy, hf2.hz, hf2.len, hf2.big⟩
  have hxn := hs.xn
  let D : Dat := ⟨rb, fb, (r.gap : Nat), x, l, y, z, (x.n + 63) / 64, m.b, m.off, m.n, m.c, fun p => r.C[p]!, fun i => r.L[i]!, V, W, fun t => r.M[t]!⟩
  have fin : ∀ e w', FindP D fr st en w2 sv e w' → ZFindP y.n r.C.length (fun p => r.C[p]!) V W fb (.slice y.s y.n y.c) (.slice z.s z.n z.c) sv fr st en w2 e w' := by
    rintro e w' ⟨k, ok, rfl, h1, h2⟩
    refine ⟨k, ok, rfl, ?_, h2⟩
    rw [← hxn]
    exact h1
  rcases Nat.eq_zero_or_pos x.n with h0 | h0
  · exact (find_empty2 (D := D) c1 hfold h0 (FindW.same hf2.blk hf2.scr) fr st en).mono fin
  · have hml : 0 < m.n := by
      rw [hs.mn, hok.mlen]
      exact Nat.mul_pos (by omega) (by omega)
    have kc : ∀ g, vc.ownBlock = some g → w2.heap[g]? = w.heap[g]? := fun g hg => hb.block g (h.hc.lt g hg).2
    have kl : ∀ g, vl.ownBlock = some g → w2.heap[g]? = w.heap[g]? := fun g hg => hb.block g (h.hl.lt g hg).2
    have km : ∀ g, vm.ownBlock = some g → w2.heap[g]? = w.heap[g]? := fun g hg => hb.block g (h.hm.lt g hg).2
    have hmw := hs.hm w2 km
    have henv : Env D w2 := by
      refine ⟨⟨by simp [World.cell?, hrun, D], c1, by simp [World.cell?, hrun, D], by simp [World.cell?, hrun, D], ?_⟩, hs.hx w2 kc, hs.hl w2 kl, fun t ht => hmw.cell ht, hfold⟩
      rw [show (Value.slice (some ⟨D.mb, D.mo, none⟩) D.mn D.mc) = .slice m.s m.n m.c by rw [(hs.mb hml).2]]
      simp [World.cell?, hrun, D]
    have hstrict : ∀ a b, a < b → b < r.L.length → r.L[a]! < r.L[b]! := fun a b hab hb' => by
      have := (List.pairwise_iff_getElem.1 hok.strict) a b (by omega) hb' hab
      simpa [getElem!_pos, hb', show a < r.L.length by omega] using this
    have hln := hs.ln
    have hlen := hok.len
    have hle := hok.le
    have hdok : DOk D := by
      refine ⟨fun i j hij hj => hstrict i j hij (by rw [← hln]; exact hj), by show l.n ≤ _; omega, by show x.n ≤ _; omega, hf.cap, rfl, ?_, hs.mc, hs.mcb, hok.lt, fun k hk => ?_, fun p hp hne => ?_⟩
      · show m.n = (l.n + 1) * ((x.n + 63) / 64)
        rw [hs.mn, hok.mlen, hln, hxn]
      · have := hok.rows k (by rw [← hln]; exact hk)
        show RowIs (fun p => r.C[p]!) l.n (fun i => r.L[i]!) ((x.n + 63) / 64) (fun t => r.M[t]!) k x.n
        rw [hln, hxn]
        exact this
      · have hmem := hok.inn p (by rw [← hxn]; exact hp) hne
        obtain ⟨j, hj, hj2⟩ := List.getElem_of_mem hmem
        exact ⟨j, by show j < l.n; omega, by show r.L[j]! = r.C[p]!; rw [getElem!_pos r.L j hj]; exact hj2⟩
    have hflt := hf.lt
    have hu : ∀ b, Uses D b → b < w2.heap.size ∧ b ≠ D.fb ∧ sv.ownBlock ≠ some b := by
      have hsz := hb.size
      rintro b (h1 | ⟨h1, rfl⟩ | ⟨h1, rfl⟩ | ⟨h1, rfl⟩ | ⟨h1, rfl⟩ | ⟨h1, rfl⟩)
      · have h2 : b = rb := h1
        refine ⟨by omega, by show b ≠ fb; omega, fun e => ?_⟩
        have := (hf.scr.lt _ e).2
        omega
      · have hx := hs.xb h1
        exact ⟨Nat.lt_of_lt_of_le (h.hc.lt _ hx).2 hsz, own_ne_block h.hc hf.blk (by decide) _ hx, own_ne_scr h.hc hf.scr (by decide) _ hx⟩
      · have hx := hs.lb h1
        exact ⟨Nat.lt_of_lt_of_le (h.hl.lt _ hx).2 hsz, own_ne_block h.hl hf.blk (by decide) _ hx, own_ne_scr h.hl hf.scr (by decide) _ hx⟩
      · have hx := (hs.mb h1).1
        exact ⟨Nat.lt_of_lt_of_le (h.hm.lt _ hx).2 hsz, own_ne_block h.hm hf.blk (by decide) _ hx, hvm _ hx⟩
      · have hy := hf.yb h1
        change y.b < fb at hy
        refine ⟨by show y.b < _; omega, by show y.b ≠ fb; omega, fun e => ?_⟩
        have := (hf.scr.lt _ e).1
        change fb < y.b at this
        omega
      · have hy := hf.zb h1
        change z.b < fb at hy
        refine ⟨by show z.b < _; omega, by show z.b ≠ fb; omega, fun e => ?_⟩
        have := (hf.scr.lt _ e).1
        change fb < z.b at this
        omega
    exact (find_some (D := D) henv hdok h0 hf2.blk hf2.scr hu fr st en).mono fin

set_option maxRecDepth 100000 in
set_option maxHeartbeats 1000000 in
theorem zzfind_any {w0 w : World} {gb : Nat} {wv : Value} {R : List RunV} {vc vl vm vs : Value} (h : GP w0 gb wv w (allC R) (allL R) (allM R) R.length (spans R 0 0 0) vc vl vm vs) {A B : List RunV} {r : RunV} (hR : R = A ++ r :: B) (hok : ROk r)
    (b1 : (allC R).length ≤ 1048576) (b2 : (allL R).length ≤ 1048576) (b3 : (allM R).length ≤ 67108864) (b4 : R.length ≤ 1048576)
    {fb : Nat} {y z : Sl} {V : Nat → Int} {W : Nat → Bool} {sv : Value} (hf : FoldB w fb y z V W sv) (hvm : ∀ b, vm.ownBlock = some b → sv.ownBlock ≠ some b) (fr : Nat) (st en : Bool) :
    Calls Try.prog 22 #[.pointer (some ⟨gb, 0, none⟩), .int .i64 (A.length : Nat), .pointer (some ⟨fb, 0, none⟩), .int .i64 fr, .bool st, .bool en] w (ZFindP y.n r.C.length (fun p => r.C[p]!) V W fb (.slice y.s y.n y.c) (.slice z.s z.n z.c) sv fr st en w) := by
  obtain ⟨x, l, m, hs, hrun⟩ := run_any h hR hok b1 b2 b3 b4
  obtain ⟨wdv, hwd⟩ : ∃ wdv, wdv = (x.n + 63) / 64 := ⟨_, rfl⟩
  have HR : Hid (Calls Try.prog 38 #[.pointer (some ⟨gb, 0, none⟩), .int .i64 (A.length : Nat)] w fun e w' => e = .returned (.agg #[.int .i64 (r.gap : Nat), .slice x.s x.n x.c, .int .i64 (wdv : Nat), .slice l.s l.n l.c, .slice m.s m.n m.c]) ∧ Below w.heap.size w w') := by
    refine hid (hrun.mono ?_)
    rintro e w' ⟨h1, h2⟩
    refine ⟨?_, h2⟩
    rw [h1, hwd]
    rfl
  have hfr := fun w2 rb hb hrb hr => find_run h hok hs hf hvm (w2 := w2) (rb := rb) hb hrb hr fr st en
  rw [← hwd] at hfr
  have HF := hid hfr
  clear h hs hf hvm hrun hfr hwd
  go_enter Try.func22, Try.ntmps22
  go_wp2_with (go_at_call 38; refine HR.out.mono ?_; rintro e w1 ⟨rfl, hbw⟩)
  have hF2 := hid (HF.out _ _ (hbw.alloc hbw.size (.cells #[.int .i64 (r.gap : Nat), .slice x.s x.n x.c, .int .i64 (wdv : Nat), .slice l.s l.n l.c, .slice m.s m.n m.c] 56)) hbw.size (heap_alloc_new w1 _))
  have HBW := hid (hbw.alloc hbw.size (.cells #[.int .i64 (r.gap : Nat), .slice x.s x.n x.c, .int .i64 (wdv : Nat), .slice l.s l.n l.c, .slice m.s m.n m.c] 56))
  clear hbw HF
  refine hF2.out.mono ?_
  rintro e w3 ⟨k, ok, rfl, h1, h2⟩
  have H1 := hid h1
  have H2 := hid (h2.after HBW.out)
  clear h1 h2
  go_wp2
  refine bodyPost_ret (by simp [results, Try.results22, go_sem]; try rfl) rfl ?_
  exact ⟨k, ok, rfl, H1.out, H2.out⟩
end Go.Proofs.Qxb6601041a
