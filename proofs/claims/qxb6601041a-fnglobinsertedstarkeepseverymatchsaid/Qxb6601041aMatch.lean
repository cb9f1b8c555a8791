/-
  Seat b6601041a: (*glob).matches: what its searches stand on.
-/
import Derived.Test.Qxb6601041aAt
import Derived.Test.Qxb6601041aKit
import Derived.Test.Qxb6601041aPlainG
namespace Go.Proofs.Qxb6601041a
open Go.RowKit

def runCells (r : RunV) (x l m : Sl) : Array Value := #[.int .i64 (r.gap : Nat), .slice x.s x.n x.c, .int .i64 (((x.n + 63) / 64 : Nat) : Int), .slice l.s l.n l.c, .slice m.s m.n m.c]

/-- The glob and the folded value, as they lie while matches runs. -/
def MW (gb : Nat) (wv : Value) (R : List RunV) (fb : Nat) (y z : Sl) (V : Nat → Int) (W : Nat → Bool) (vc vl vm vs : Value) (w : World) : Prop :=
  ∃ sv, GP w gb wv w (allC R) (allL R) (allM R) R.length (spans R 0 0 0) vc vl vm vs ∧ FoldB w fb y z V W sv ∧ ∀ b, vm.ownBlock = some b → sv.ownBlock ≠ some b

/-- What a search leaves alone. -/
structure KeptM (vm : Value) (w w' : World) : Prop where
  cells : ∀ (b : Nat) (cs : Array Value) (t : TypeId), w.heap[b]? = some (.cells cs t (0, 0)) → t ≠ 52 → t ≠ 65 → w'.heap[b]? = some (.cells cs t (0, 0))
  vm : ∀ g, vm.ownBlock = some g → w'.heap[g]? = w.heap[g]?
  size : w.heap.size ≤ w'.heap.size

theorem own_kept {vm : Value} {w w' : World} (hk : KeptM vm w w') {base : Nat} {e : TypeId} {v : Value} {n : Nat} {xs : List Value} (h : w.ownsRow base e 1 v n xs) (h1 : e ≠ 52) (h2 : e ≠ 65) : ∀ g, v.ownBlock = some g → w'.heap[g]? = w.heap[g]? := by
  intro g hg
  rcases h.2 with ⟨rfl, _⟩ | ⟨g', cap, cur, rfl, _, hg', _⟩
  · cases hg
  · simp [Value.ownBlock] at hg
    subst hg
    rw [hg', hk.cells _ _ _ hg' h1 h2]

theorem RunSl.kept {w w' : World} {vc vl vm : Value} {r : RunV} {x l m : Sl} (h : RunSl w vc vl vm r x l m) (kc : ∀ g, vc.ownBlock = some g → w'.heap[g]? = w.heap[g]?) (kl : ∀ g, vl.ownBlock = some g → w'.heap[g]? = w.heap[g]?) (km : ∀ g, vm.ownBlock = some g → w'.heap[g]? = w.heap[g]?) : RunSl w' vc vl vm r x l m :=
  ⟨h.xn, h.ln, h.mn, h.mc, h.mcb, h.xb, h.lb, h.mb, fun w2 hb => h.hx w2 (fun g hg => (hb g hg).trans (kc g hg)), fun w2 hb => h.hl w2 (fun g hg => (hb g hg).trans (kl g hg)), fun w2 hb => h.hm w2 (fun g hg => (hb g hg).trans (km g hg))⟩

theorem MW.below {gb : Nat} {wv : Value} {R : List RunV} {fb : Nat} {y z : Sl} {V : Nat → Int} {W : Nat → Bool} {vc vl vm vs : Value} {w w' : World} (h : MW gb wv R fb y z V W vc vl vm vs w) (hb : Below w.heap.size w w') : MW gb wv R fb y z V W vc vl vm vs w' := by
  obtain ⟨sv, h1, h2, h3⟩ := h
  have own : ∀ {base : Nat} {e : TypeId} {size : Nat} {v : Value} {n : Nat} {xs : List Value}, w.ownsRow base e size v n xs → w'.ownsRow base e size v n xs := by
    intro base e size v n xs k1
    refine ⟨k1.1, ?_⟩
    rcases k1.2 with hn | ⟨g, cap, cur, rfl, hb', hg, rest⟩
    · exact Or.inl hn
    · exact Or.inr ⟨g, cap, cur, rfl, hb', by rw [hb.block g (Array.getElem?_eq_some_iff.1 hg).1]; exact hg, rest⟩
  exact ⟨sv, ⟨by rw [hb.block gb h1.lt]; exact h1.blk, own h1.hc, own h1.hl, own h1.hm, own h1.hs, h1.dis, Below.refl _ _⟩, h2.below hb, h3⟩

theorem KeptM.of_below {gb : Nat} {wv : Value} {R : List RunV} {fb : Nat} {y z : Sl} {V : Nat → Int} {W : Nat → Bool} {vc vl vm vs : Value} {w w' : World} (h : MW gb wv R fb y z V W vc vl vm vs w) (hb : Below w.heap.size w w') : KeptM vm w w' := by
  obtain ⟨sv, h1, h2, h3⟩ := h
  exact ⟨fun b cs t hbk _ _ => by rw [hb.block b (Array.getElem?_eq_some_iff.1 hbk).1]; exact hbk, fun g hg => hb.block g (h1.hm.lt g hg).2, hb.size⟩
theorem KeptM.trans {vm : Value} {a b c : World} (h : KeptM vm a b) (k : KeptM vm b c) : KeptM vm a c :=
  ⟨fun i cs t hi h1 h2 => k.cells i cs t (h.cells i cs t hi h1 h2) h1 h2, fun g hg => (k.vm g hg).trans (h.vm g hg), Nat.le_trans h.size k.size⟩

theorem MW.runSl {gb : Nat} {wv : Value} {R : List RunV} {fb : Nat} {y z : Sl} {V : Nat → Int} {W : Nat → Bool} {vc vl vm vs : Value} {w w' : World} (h : MW gb wv R fb y z V W vc vl vm vs w) (hk : KeptM vm w w') {r : RunV} {x l m : Sl} (hs : RunSl w vc vl vm r x l m) : RunSl w' vc vl vm r x l m := by
  obtain ⟨sv, h1, _⟩ := h
  exact hs.kept (own_kept hk h1.hc (by decide) (by decide)) (own_kept hk h1.hl (by decide) (by decide)) hk.vm

def MFindP (gb : Nat) (wv : Value) (R : List RunV) (fb : Nat) (y z : Sl) (V : Nat → Int) (W : Nat → Bool) (vc vl vm vs : Value) (m : Nat) (C : Nat → Int) (fr : Nat) (st en : Bool) (w : World) (e : Ending) (w' : World) : Prop :=
  ∃ (k : Int) (ok : Bool), e = .returned (.tuple #[.int .i64 k, .bool ok]) ∧ Found m C y.n V W fr st en k ok ∧ MW gb wv R fb y z V W vc vl vm vs w' ∧ KeptM vm w w' ∧ Below fb w w'

/-- find, for a run's value in a block. -/
theorem mfind {gb : Nat} {wv : Value} {R : List RunV} {fb : Nat} {y z : Sl} {V : Nat → Int} {W : Nat → Bool} {vc vl vm vs : Value} {w : World} (hM : MW gb wv R fb y z V W vc vl vm vs w) {r : RunV} (hok : ROk r) {x l m : Sl} (hs : RunSl w vc vl vm r x l m)
    {rb : Nat} (hrun : w.heap[rb]? = some (.cells (runCells r x l m) 56 (0, 0))) (fr : Nat) (st en : Bool) :
    Calls Try.prog 39 #[.pointer (some ⟨rb, 0, none⟩), .pointer (some ⟨fb, 0, none⟩), .int .i64 fr, .bool st, .bool en] w (MFindP gb wv R fb y z V W vc vl vm vs r.C.length (fun p => r.C[p]!) fr st en w) := by
  obtain ⟨sv, h, hf, hvm⟩ := hM
  unfold runCells at hrun
  have hrlt : rb < w.heap.size := (Array.getElem?_eq_some_iff.1 hrun).1
  have hrf : rb ≠ fb := fun e => by
    rw [e, hf.blk] at hrun
    cases hrun
  have hrs : sv.ownBlock ≠ some rb := fun e => by
    rcases hf.scr with rfl | ⟨sb, sn, sc, cur, rfl, _, h2, _⟩
    · cases e
    · simp [Value.ownBlock] at e
      subst e
      rw [h2] at hrun
      cases hrun
  have c1 : w.cell? ⟨rb, 1, none⟩ = some (.slice x.s x.n x.c) := by simp [World.cell?, hrun]
  have hfold : Fold w fb y z V W := ⟨by simp [World.cell?, hf.blk], by simp [World.cell?, hf.blk], hf.hy, hf.hz, hf.len, hf.big⟩
  have hxn := hs.xn
  let D : Dat := ⟨rb, fb, (r.gap : Nat), x, l, y, z, (x.n + 63) / 64, m.b, m.off, m.n, m.c, fun p => r.C[p]!, fun i => r.L[i]!, V, W, fun t => r.M[t]!⟩
  have fin : ∀ e w', FindP D fr st en w sv e w' → MFindP gb wv R fb y z V W vc vl vm vs r.C.length (fun p => r.C[p]!) fr st en w e w' := by
    rintro e w' ⟨k, ok, rfl, h1, h2⟩
    obtain ⟨sv', h3, h4⟩ := hf.after h2
    have hkm : ∀ g, vm.ownBlock = some g → w'.heap[g]? = w.heap[g]? := fun g hg => h2.block g (h.hm.lt g hg).2 (own_ne_block h.hm hf.blk (by decide) g hg) (hvm g hg)
    refine ⟨k, ok, rfl, ?_, ⟨sv', h.after hf hvm h2, h3, fun b hb e => ?_⟩, ⟨fun b cs t hb h5 h6 => ?_, hkm, h2.size⟩, h2.below hf.scr hf.lt⟩
    · rw [← hxn]
      exact h1
    · rcases h4 with h4 | h4
      · exact hvm b hb (by rw [← h4]; exact e)
      · have := h4 b e
        have := (h.hm.lt b hb).2
        omega
    · rw [h2.block b (Array.getElem?_eq_some_iff.1 hb).1 (fun e => ?_) (fun e => ?_)]
      · exact hb
      · subst e
        have h7 := hf.blk
        change w.heap[b]? = _ at h7
        rw [hb] at h7
        cases h7
        exact h5 rfl
      · rcases hf.scr with rfl | ⟨sb, sn, sc, cur, rfl, _, h7, _⟩
        · cases e
        · simp [Value.ownBlock] at e
          subst e
          rw [hb] at h7
          cases h7
          exact h6 rfl
  rcases Nat.eq_zero_or_pos x.n with h0 | h0
  · exact (find_empty2 (D := D) c1 hfold h0 (FindW.same hf.blk hf.scr) fr st en).mono fin
  · have hml : 0 < m.n := by
      rw [hs.mn, hok.mlen]
      exact Nat.mul_pos (by omega) (by omega)
    have hmw := hs.hm w (fun _ _ => rfl)
    have henv : Env D w := by
      refine ⟨⟨by simp [World.cell?, hrun, D], c1, by simp [World.cell?, hrun, D], by simp [World.cell?, hrun, D], ?_⟩, hs.hx w (fun _ _ => rfl), hs.hl w (fun _ _ => rfl), fun t ht => hmw.cell ht, hfold⟩
      rw [show (Value.slice (some ⟨D.mb, D.mo, none⟩) D.mn D.mc) = .slice m.s m.n m.c by rw [(hs.mb hml).2]]
      simp [World.cell?, hrun, D]
    have hstrict : ∀ a b, a < b → b < r.L.length → r.L[a]! < r.L[b]! := fun a b hab hb' => by
      have := (List.pairwise_iff_getElem.1 hok.strict) a b (by omega) hb' hab
      simpa [getElem!_pos, hb', show a < r.L.length by omega] using this
    have hln := hs.ln
    have hlen := hok.len
    have hle := hok.le
    have hdok : DOk D := by
      refine ⟨fun i j hij hj => hstrict i j hij (by rw [← hln]; exact hj), by show l.n ≤ _; omega, by show x.n ≤ _; omega, hf.cap, rfl, ?_, hs.mc, hs.mcb, hok.lt, fun k hk => ?_, fun p hp hne => ?_⟩
      · show m.n = (l.n + 1) * ((x.n + 63) / 64)
        rw [hs.mn, hok.mlen, hln, hxn]
      · have := hok.rows k (by rw [← hln]; exact hk)
        show RowIs (fun p => r.C[p]!) l.n (fun i => r.L[i]!) ((x.n + 63) / 64) (fun t => r.M[t]!) k x.n
        rw [hln, hxn]
        exact this
      · have hmem := hok.inn p (by rw [← hxn]; exact hp) hne
        obtain ⟨j, hj, hj2⟩ := List.getElem_of_mem hmem
        exact ⟨j, by show j < l.n; omega, by show r.L[j]! = r.C[p]!; rw [getElem!_pos r.L j hj]; exact hj2⟩
    have hflt := hf.lt
    have hu : ∀ b, Uses D b → b < w.heap.size ∧ b ≠ D.fb ∧ sv.ownBlock ≠ some b := by
      rintro b (h1 | ⟨h1, rfl⟩ | ⟨h1, rfl⟩ | ⟨h1, rfl⟩ | ⟨h1, rfl⟩ | ⟨h1, rfl⟩)
      · have h2 : b = rb := h1
        rw [h2]
        exact ⟨hrlt, hrf, hrs⟩
      · have hx := hs.xb h1
        exact ⟨(h.hc.lt _ hx).2, own_ne_block h.hc hf.blk (by decide) _ hx, own_ne_scr h.hc hf.scr (by decide) _ hx⟩
      · have hx := hs.lb h1
        exact ⟨(h.hl.lt _ hx).2, own_ne_block h.hl hf.blk (by decide) _ hx, own_ne_scr h.hl hf.scr (by decide) _ hx⟩
      · have hx := (hs.mb h1).1
        exact ⟨(h.hm.lt _ hx).2, own_ne_block h.hm hf.blk (by decide) _ hx, hvm _ hx⟩
      · have hy := hf.yb h1
        change y.b < fb at hy
        refine ⟨by show y.b < _; omega, by show y.b ≠ fb; omega, fun e => ?_⟩
        have := (hf.scr.lt _ e).1
        change fb < y.b at this
        omega
      · have hy := hf.zb h1
        change z.b < fb at hy
        refine ⟨by show z.b < _; omega, by show z.b ≠ fb; omega, fun e => ?_⟩
        have := (hf.scr.lt _ e).1
        change fb < z.b at this
        omega
    exact (find_some (D := D) henv hdok h0 hf.blk hf.scr hu fr st en).mono fin

theorem mat {gb : Nat} {wv : Value} {R : List RunV} {fb : Nat} {y z : Sl} {V : Nat → Int} {W : Nat → Bool} {vc vl vm vs : Value} {w : World} (hM : MW gb wv R fb y z V W vc vl vm vs w) {r : RunV} (hok : ROk r) {x l m : Sl} (hs : RunSl w vc vl vm r x l m)
    {rb : Nat} (hrun : w.heap[rb]? = some (.cells (runCells r x l m) 56 (0, 0))) (i : Nat) (hi : i ≤ 1048576) :
    Calls Try.prog 43 #[.pointer (some ⟨rb, 0, none⟩), .pointer (some ⟨fb, 0, none⟩), .int .i64 i] w (AtP w y.n r.C.length (fun p => r.C[p]!) V i) := by
  obtain ⟨sv, h, hf, hvm⟩ := hM
  unfold runCells at hrun
  have hlen := hok.len
  have c1 : w.cell? ⟨rb, 1, none⟩ = some (.slice x.s x.n x.c) := by simp [World.cell?, hrun]
  have hfold : Fold w fb y z V W := ⟨by simp [World.cell?, hf.blk], by simp [World.cell?, hf.blk], hf.hy, hf.hz, hf.len, hf.big⟩
  have hxn := hs.xn
  have := at_any c1 (hs.hx w (fun _ _ => rfl)) hfold i hi (by omega)
  rwa [hxn] at this
end Go.Proofs.Qxb6601041a
