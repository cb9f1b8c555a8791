/-
  Seat b6601041a: (*run).find: what it reads; a run of no characters.
-/
import Derived.Test.Qxb6601041aState
namespace Go.Proofs.Qxb6601041a
open Go.RowKit

/-- A run, a folded value: where they lie, what they hold. -/
structure Dat where
  rb : Nat
  fb : Nat
  gap : Int
  x : Sl
  l : Sl
  y : Sl
  z : Sl
  wd : Nat
  mb : Nat
  mo : Nat
  mn : Nat
  mc : Nat
  C : Nat → Int
  Lf : Nat → Int
  V : Nat → Int
  W : Nat → Bool
  Mk : Nat → Nat

structure Env (D : Dat) (w : World) : Prop where
  run : RunAt w D.rb D.gap D.x D.wd D.l D.mb D.mo D.mn D.mc
  hx : Runes w D.x D.C
  hl : Runes w D.l D.Lf
  hm : ∀ t, t < D.mn → w.cell? ⟨D.mb, D.mo + t, none⟩ = some (.int .u64 (D.Mk t : Nat))
  fold : Fold w D.fb D.y D.z D.V D.W

structure DOk (D : Dat) : Prop where
  sorted : ∀ i j, i < j → j < D.l.n → D.Lf i < D.Lf j
  lbig : D.l.n ≤ 1048576
  xbig : D.x.n ≤ 1048576
  ycap : D.y.n ≤ D.y.c
  wd : D.wd = (D.x.n + 63) / 64
  mn : D.mn = (D.l.n + 1) * D.wd
  mc : D.mn ≤ D.mc
  mcb : D.mc ≤ 9223372036854775807
  lt : ∀ t, D.Mk t < 18446744073709551616
  rows : ∀ k, k ≤ D.l.n → RowIs D.C D.l.n D.Lf D.wd D.Mk k D.x.n
  inn : ∀ p, p < D.x.n → D.C p ≠ -1 → ∃ k, k < D.l.n ∧ D.Lf k = D.C p

/-- The blocks that find reads, but the folded value's own. -/
def Uses (D : Dat) (b : Nat) : Prop := b = D.rb ∨ (0 < D.x.n ∧ b = D.x.b) ∨ (0 < D.l.n ∧ b = D.l.b) ∨ (0 < D.mn ∧ b = D.mb) ∨ (0 < D.y.n ∧ b = D.y.b) ∨ (0 < D.z.n ∧ b = D.z.b)

theorem Env.kept {D : Dat} {w w' : World} (h : Env D w) (hb : ∀ b, Uses D b → w'.heap[b]? = w.heap[b]?) (h0 : w'.cell? ⟨D.fb, 0, none⟩ = w.cell? ⟨D.fb, 0, none⟩) (h1 : w'.cell? ⟨D.fb, 1, none⟩ = w.cell? ⟨D.fb, 1, none⟩) : Env D w' := by
  have hr : ∀ o, w'.cell? ⟨D.rb, o, none⟩ = w.cell? ⟨D.rb, o, none⟩ := fun o => World.cell?_of_block (hb _ (Or.inl rfl))
  refine ⟨⟨?_, ?_, ?_, ?_, ?_⟩, h.hx.kept fun h2 => hb _ (Or.inr (Or.inl ⟨h2, rfl⟩)), h.hl.kept fun h2 => hb _ (Or.inr (Or.inr (Or.inl ⟨h2, rfl⟩))), fun t ht => ?_, ⟨?_, ?_, h.fold.hx.kept fun h2 => hb _ (Or.inr (Or.inr (Or.inr (Or.inr (Or.inl ⟨h2, rfl⟩))))), h.fold.hy.kept fun h2 => hb _ (Or.inr (Or.inr (Or.inr (Or.inr (Or.inr ⟨h2, rfl⟩))))), h.fold.len, h.fold.big⟩⟩
  · rw [hr]; exact h.run.f0
  · rw [hr]; exact h.run.f1
  · rw [hr]; exact h.run.f2
  · rw [hr]; exact h.run.f3
  · rw [hr]; exact h.run.f4
  · rw [World.cell?_of_block (w := w) (hb D.mb (Or.inr (Or.inr (Or.inr (Or.inl ⟨by omega, rfl⟩)))))]
    exact h.hm t ht
  · rw [h0]; exact h.fold.f0
  · rw [h1]; exact h.fold.f1

/-- Behind find: the scratch may have turned; all else is as it was. -/
structure FindW (w : World) (fb : Nat) (xv yv sv : Value) (w' : World) : Prop where
  fold : ∃ sv', w'.heap[fb]? = some (.cells #[xv, yv, sv'] 52 (0, 0)) ∧ Scr w' fb sv' ∧ (sv'.ownBlock = sv.ownBlock ∨ ∀ b, sv'.ownBlock = some b → w.heap.size ≤ b)
  os : w'.os = w.os
  tape : w'.tape = w.tape
  output : w'.output = w.output
  size : w.heap.size ≤ w'.heap.size
  block : ∀ k, k < w.heap.size → k ≠ fb → sv.ownBlock ≠ some k → w'.heap[k]? = w.heap[k]?

theorem FindW.same {w : World} {fb : Nat} {xv yv sv : Value} (hf : w.heap[fb]? = some (.cells #[xv, yv, sv] 52 (0, 0))) (hs : Scr w fb sv) : FindW w fb xv yv sv w :=
  ⟨⟨sv, hf, hs, Or.inl rfl⟩, rfl, rfl, rfl, Nat.le_refl _, fun _ _ _ _ => rfl⟩

def FindP (D : Dat) (fr : Nat) (st en : Bool) (w : World) (sv : Value) (e : Ending) (w' : World) : Prop :=
  ∃ (k : Int) (ok : Bool), e = .returned (.tuple #[.int .i64 k, .bool ok]) ∧ Found D.x.n D.C D.y.n D.V D.W fr st en k ok ∧ FindW w D.fb (.slice D.y.s D.y.n D.y.c) (.slice D.z.s D.z.n D.z.c) sv w'
theorem FindP.mk {D : Dat} {fr : Nat} {st en : Bool} {w : World} {sv : Value} {w' : World} {k : Int} {ok : Bool} (h : Found D.x.n D.C D.y.n D.V D.W fr st en k ok) (hw : FindW w D.fb (.slice D.y.s D.y.n D.y.c) (.slice D.z.s D.z.n D.z.c) sv w') :
    FindP D fr st en w sv (.returned (.tuple #[.int .i64 k, .bool ok])) w' := ⟨k, ok, rfl, h, hw⟩

theorem good_empty {C : Nat → Int} {n : Nat} {V : Nat → Int} {W : Nat → Bool} {fr : Nat} {st en : Bool} {i : Nat} (h : fr ≤ i) (hn : i ≤ n) (h1 : st = true → begB W i = true) (h2 : en = true → finB n W i = true) : Good 0 C n V W fr st en i :=
  ⟨h, by omega, fun h3 => begB_iff.1 (h1 h3), fun h3 => by rw [Nat.add_zero]; exact finB_iff.1 (h2 h3), fun p hp => absurd hp (Nat.not_lt_zero _)⟩

set_option maxRecDepth 100000 in
set_option maxHeartbeats 2000000 in
theorem find_empty {D : Dat} {w : World} {sv : Value} (h : Env D w) (h0 : D.x.n = 0) (hW : FindW w D.fb (.slice D.y.s D.y.n D.y.c) (.slice D.z.s D.z.n D.z.c) sv w) (fr : Nat) (st en : Bool) :
    Calls Try.prog 39 #[.pointer (some ⟨D.rb, 0, none⟩), .pointer (some ⟨D.fb, 0, none⟩), .int .i64 fr, .bool st, .bool en] w (FindP D fr st en w sv) := by
  have f1 := h.run.f1
  have v0 := h.fold.f0
  have hbig : D.y.n ≤ 1048576 := h.fold.big
  have HE := hid h
  have HW := hid hW
  have HP : Hid (∀ k ok, Found 0 D.C D.y.n D.V D.W fr st en k ok → Found D.x.n D.C D.y.n D.V D.W fr st en k ok) := by rw [h0]; exact fun _ _ h => h
  rw [h0] at f1
  clear h hW h0
  go_enter Try.func39, Try.ntmps39
  go_wp2
  go_loop [13] (fun a => ∃ i : Nat, a = .int .i64 i ∧ fr ≤ i ∧ (i ≤ D.y.n + 1 ∨ i = fr) ∧ Hid (∀ s, Good 0 D.C D.y.n D.V D.W fr st en s → i ≤ s)) (fun a => D.y.n + 1 - (intOf a).toNat)
  case atStart => exact ⟨fr, rfl, Nat.le_refl _, Or.inr rfl, fun s hs => hs.fr⟩
  obtain ⟨i, rfl, hi, hior, HG⟩ := hrel
  by_cases hle : i ≤ D.y.n
  · have hb := fun w' hw => begins_any (V := D.V) (hw : Fold w' D.fb D.y D.z D.V D.W) i hle
    have he := fun w' hw => ends_any (V := D.V) (hw : Fold w' D.fb D.y D.z D.V D.W) i hle
    have HB := hid hb
    have HN := hid he
    clear hb he hior
    have HI := hid hi
    cases hb1 : begB D.W i <;> cases hb2 : finB D.y.n D.W i <;> cases st <;> cases en
    all_goals go_wp2_with (first | (go_at_call 44; refine (HB.out _ HE.out.fold).mono ?_; rintro e w' ⟨rfl, rfl⟩) | (go_at_call 45; refine (HN.out _ HE.out.fold).mono ?_; rintro e w' ⟨rfl, rfl⟩))
    all_goals first
      | (refine bodyPost_ret (by simp [results, Try.results39, go_sem]; try rfl) rfl ?_
         exact FindP.mk (HP.out _ _ (Or.inl ⟨rfl, i, good_empty HI.out hle (by simp [hb1]) (by simp [hb2]), by simp, HG.out⟩)) HW.out)
      | (go_round
         case rel =>
           refine ⟨i + 1, by go_num, by omega, by omega, fun s hs => ?_⟩
           have h1 := HG.out s hs
           rcases Nat.lt_or_ge i s with h2 | h2
           · exact h2
           · exfalso
             obtain rfl : s = i := by omega
             have h3 := hs.st
             have h4 := hs.en
             rw [Nat.add_zero] at h4
             simp [← begB_iff, ← finB_iff, hb1, hb2] at h3 h4
         case measure => simp [intOf]; omega)
  · go_wp2
    refine bodyPost_ret (by simp [results, Try.results39, go_sem]; try rfl) rfl ?_
    exact FindP.mk (HP.out _ _ (Or.inr ⟨rfl, rfl, fun s hs => by have h1 := HG.out s hs; have h2 := hs.le; omega⟩)) HW.out
end Go.Proofs.Qxb6601041a
