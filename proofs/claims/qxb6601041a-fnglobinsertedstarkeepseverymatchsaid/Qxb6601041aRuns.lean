/-
  Seat b6601041a: the run at i of a glob of runs.
-/
import Derived.Test.Qxb6601041aRunS
import Derived.Test.Qxb6601041aGlob
namespace Go.Proofs.Qxb6601041a
open Go.RowKit

/-- A run as add lays it. -/
structure ROk (r : RunV) : Prop where
  gap : r.gap ≤ 1048576
  len : r.C.length ≤ 4096
  le : r.L.length ≤ r.C.length
  strict : r.L.Pairwise (· < ·)
  inn : ∀ p, p < r.C.length → r.C[p]! ≠ -1 → r.C[p]! ∈ r.L
  mlen : r.M.length = (r.L.length + 1) * ((r.C.length + 63) / 64)
  lt : ∀ t : Nat, r.M[t]! < 18446744073709551616
  rows : ∀ k, k ≤ r.L.length → RowIs (fun p => r.C[p]!) r.L.length (fun i => r.L[i]!) ((r.C.length + 63) / 64) (fun t => r.M[t]!) k r.C.length

/-- The slices of the run r of the glob, where they lie, what they hold. -/
structure RunSl (w : World) (vc vl vm : Value) (r : RunV) (x l m : Sl) : Prop where
  xn : x.n = r.C.length
  ln : l.n = r.L.length
  mn : m.n = r.M.length
  mc : m.n ≤ m.c
  mcb : m.c ≤ 9223372036854775807
  xb : 0 < x.n → vc.ownBlock = some x.b
  lb : 0 < l.n → vl.ownBlock = some l.b
  mb : 0 < m.n → vm.ownBlock = some m.b ∧ m.s = some ⟨m.b, m.off, none⟩
  hx : ∀ w' : World, (∀ g, vc.ownBlock = some g → w'.heap[g]? = w.heap[g]?) → Runes w' x fun i => r.C[i]!
  hl : ∀ w' : World, (∀ g, vl.ownBlock = some g → w'.heap[g]? = w.heap[g]?) → Runes w' l fun i => r.L[i]!
  hm : ∀ w' : World, (∀ g, vm.ownBlock = some g → w'.heap[g]? = w.heap[g]?) → Words w' m fun t => r.M[t]!

theorem allC_mid (A B : List RunV) (r : RunV) (i : Nat) (hi : i < r.C.length) : ((allC (A ++ r :: B)).map (Value.int .i32))[(allC A).length + i]? = some (Value.int .i32 r.C[i]!) := by
  have h := flat_mid RunV.C A B r i hi
  unfold allC
  rw [List.getElem?_map, h]
  simp [hi]
theorem allL_mid (A B : List RunV) (r : RunV) (i : Nat) (hi : i < r.L.length) : ((allL (A ++ r :: B)).map (Value.int .i32))[(allL A).length + i]? = some (Value.int .i32 r.L[i]!) := by
  have h := flat_mid RunV.L A B r i hi
  unfold allL
  rw [List.getElem?_map, h]
  simp [hi]
theorem allM_mid (A B : List RunV) (r : RunV) (i : Nat) (hi : i < r.M.length) : ((allM (A ++ r :: B)).map u64v)[(allM A).length + i]? = some (Value.int .u64 (r.M[i]! : Nat)) := by
  have h := flat_mid RunV.M A B r i hi
  unfold allM
  rw [List.getElem?_map, h]
  simp [hi, u64v]

theorem len_mid {α : Type} (f : RunV → List α) (A B : List RunV) (r : RunV) : ((A ++ r :: B).flatMap f).length = (A.flatMap f).length + (f r).length + (B.flatMap f).length := by
  simp; omega

theorem run_any {w0 w : World} {gb : Nat} {wv : Value} {R : List RunV} {vc vl vm vs : Value} (h : GP w0 gb wv w (allC R) (allL R) (allM R) R.length (spans R 0 0 0) vc vl vm vs) {A B : List RunV} {r : RunV} (hR : R = A ++ r :: B) (hok : ROk r)
    (b1 : (allC R).length ≤ 1048576) (b2 : (allL R).length ≤ 1048576) (b3 : (allM R).length ≤ 67108864) (b4 : R.length ≤ 1048576) :
    ∃ x l m : Sl, RunSl w vc vl vm r x l m ∧ Calls Try.prog 38 #[.pointer (some ⟨gb, 0, none⟩), .int .i64 (A.length : Nat)] w (RunPost w (r.gap : Nat) x l m) := by
  subst hR
  have lc := len_mid RunV.C A B r
  have ll := len_mid RunV.L A B r
  have lm := len_mid RunV.M A B r
  change (allC (A ++ r :: B)).length = (allC A).length + r.C.length + (allC B).length at lc
  change (allL (A ++ r :: B)).length = (allL A).length + r.L.length + (allL B).length at ll
  change (allM (A ++ r :: B)).length = (allM A).length + r.M.length + (allM B).length at lm
  obtain ⟨x, x1, x2, x3, x4, x5, x6⟩ := slice_own (t := 22) (a := (allC A).length) (b := (allC A).length + r.C.length) Try.underlying22 sizeOf21 h.hc (by omega) (by omega) (by omega) .i32 .i32
  obtain ⟨l, l1, l2, l3, l4, l5, l6⟩ := slice_own (t := 22) (a := (allL A).length) (b := (allL A).length + r.L.length) Try.underlying22 sizeOf21 h.hl (by omega) (by omega) (by omega) .i32 .i32
  obtain ⟨m, m1, m2, m3, m4, m5, m6⟩ := slice_own (t := 45) (a := (allM A).length) (b := (allM A).length + r.M.length) Try.underlying45 sizeOf65 h.hm (by omega) (by omega) (by omega) .i32 .i32
  have hgapb := hok.gap
  have hlenb := hok.len
  refine ⟨x, l, m, ⟨by omega, by omega, by omega, m2, m3, fun h0 => (x5 h0).1, fun h0 => (l5 h0).1, m5, fun w' hb => x6 w' _ hb (fun i hi => allC_mid A B r i (by omega)), fun w' hb => l6 w' _ hb (fun i hi => allL_mid A B r i (by omega)), fun w' hb => m6 w' _ hb (fun i hi => allM_mid A B r i (by omega))⟩, ?_⟩
  -- the spans
  have hsl := h.hs
  rcases hsl.2 with ⟨_, h0⟩ | ⟨sg, scap, cur, rfl, _, hg, _⟩
  · simp at h0
  have hcell : ∀ (A' B' : List RunV) (q : RunV), A ++ r :: B = A' ++ q :: B' → ∀ k, k < 4 → w.cell? ⟨sg, A'.length * 4 + k, none⟩ = [Value.int .i32 (q.gap : Nat), .int .i32 ((0 + (allC A').length + q.C.length : Nat) : Int), .int .i32 ((0 + (allL A').length + q.L.length : Nat) : Int), .int .i32 ((0 + (allM A').length + q.M.length : Nat) : Int)][k]? := fun A' B' q e k hk => by
    have hlt : A'.length < (A ++ r :: B).length := by rw [e]; simp
    rw [hsl.cellAt _ (by omega), e, spans_at A' B' q 0 0 0 k hk]
  have hc := hcell A B r rfl
  have k0 := hc 0 (by omega)
  have k1 := hc 1 (by omega)
  have k2 := hc 2 (by omega)
  have k3 := hc 3 (by omega)
  simp only [List.getElem?_cons_zero, List.getElem?_cons_succ, Nat.zero_add, Nat.add_zero] at k0 k1 k2 k3
  rcases List.eq_nil_or_concat A with rfl | ⟨A', q, rfl⟩
  · simp only [List.length_nil, Nat.zero_mul, Nat.zero_add] at k0 k1 k2 k3
    have e0 : (allC ([] : List RunV)).length = 0 := rfl
    have e1 : (allL ([] : List RunV)).length = 0 := rfl
    have e2 : (allM ([] : List RunV)).length = 0 := rfl
    rw [e0] at k1 x4
    rw [e1] at k2 l4
    rw [e2] at k3 m4
    refine run_zero (tc := 0 + r.C.length) (tl := 0 + r.L.length) (tm := 0 + r.M.length) h.blk (by simp) k0 k1 k2 k3 (by omega) x4 l4 m4 (by omega)
  · have hp := hcell A' (r :: B) q (by simp)
    have p0 := hp 0 (by omega)
    have p1 := hp 1 (by omega)
    have p2 := hp 2 (by omega)
    have p3 := hp 3 (by omega)
    simp only [List.getElem?_cons_zero, List.getElem?_cons_succ, Nat.zero_add, Nat.add_zero] at p0 p1 p2 p3
    have f0 : (allC A').length + q.C.length = (allC (A' ++ [q])).length := by simp [allC]
    have f1 : (allL A').length + q.L.length = (allL (A' ++ [q])).length := by simp [allL]
    have f2 : (allM A').length + q.M.length = (allM (A' ++ [q])).length := by simp [allM]
    rw [f0] at p1
    rw [f1] at p2
    rw [f2] at p3
    have hA : (A'.concat q).length = A'.length + 1 := by simp
    have hcc : A'.concat q = A' ++ [q] := List.concat_eq_append
    rw [hA] at k0 k1 k2 k3 ⊢
    rw [hcc] at k1 k2 k3 x4 l4 m4
    exact run_succ h.blk (by simp) b4 p0 p1 p2 p3 k0 k1 k2 k3 (by omega) x4 l4 m4 (by omega)
end Go.Proofs.Qxb6601041a
