/-
  Seat b6601041a: (*run).mask: the row of masks of a character.
-/
import Derived.Test.Qxb6601041aLeafs
import Derived.BigQuiet
import Derived.Deep.Quiet
namespace Go.Proofs.Qxb6601041a
open Go.RowKit

/-- The run at block rb: her characters x, her width, her lits l, her masks (at mb, mo). -/
structure RunAt (w : World) (rb : Nat) (gap : Int) (x : Sl) (wd : Nat) (l : Sl) (mb mo mn mc : Nat) : Prop where
  f0 : w.cell? ⟨rb, 0, none⟩ = some (.int .i64 gap)
  f1 : w.cell? ⟨rb, 1, none⟩ = some (.slice x.s x.n x.c)
  f2 : w.cell? ⟨rb, 2, none⟩ = some (.int .i64 (wd : Nat))
  f3 : w.cell? ⟨rb, 3, none⟩ = some (.slice l.s l.n l.c)
  f4 : w.cell? ⟨rb, 4, none⟩ = some (.slice (some ⟨mb, mo, none⟩) mn mc)

def MaskP (nl : Nat) (Lf : Nat → Int) (c : Int) (mb mo mc wd : Nat) (w : World) (e : Ending) (w' : World) : Prop :=
  ∃ k q, rowOf nl Lf c k ∧ k ≤ nl ∧ e = .returned (.slice (some ⟨mb, mo + k * wd, none⟩) wd (mc - k * wd)) ∧ w' = w.drewN q

theorem MaskP.mk {nl : Nat} {Lf : Nat → Int} {c : Int} {mb mo mc wd : Nat} {w : World} {k a q : Nat} (hr : rowOf nl Lf c k) (hk : k ≤ nl) (hA : k * wd = a) :
    MaskP nl Lf c mb mo mc wd w (.returned (.slice (some ⟨mb, mo + a, none⟩) (a + wd - a) (mc - a))) (w.drewN q) :=
  ⟨k, q, hr, hk, by rw [hA, Nat.add_sub_cancel_left], rfl⟩

set_option maxRecDepth 100000 in
set_option maxHeartbeats 1000000 in
theorem mask_any {w : World} {rb : Nat} {gap : Int} {x : Sl} {wd : Nat} {l : Sl} {mb mo mn mc : Nat} {Lf : Nat → Int} (h : RunAt w rb gap x wd l mb mo mn mc) (hl : Runes w l Lf) (hs : ∀ i j, i < j → j < l.n → Lf i < Lf j) (hbig : l.n ≤ 1048576) (hwd : wd ≤ 1048576) (hwd0 : 0 < wd)
    (hmn : mn = (l.n + 1) * wd) (hmc : mn ≤ mc) (hmb : mc ≤ 9223372036854775807) (c : Int) :
    Calls Try.prog 48 #[.pointer (some ⟨rb, 0, none⟩), .int .i32 c] w (MaskP l.n Lf c mb mo mc wd w) := by
  have hbs := fun w' hw => bsearch_any l Lf c w' (hw : Runes w' l Lf) hbig hs
  have HB := hid hbs
  have f2 := h.f2
  have f3 := h.f3
  have f4 := h.f4
  have HL := hid hl
  have HN := hid hmn
  clear h hl hs hbs hmn
  go_enter Try.func48, Try.ntmps48
  go_wp2_with (go_at_call 51; refine (HB.out _ HL.out).mono ?_; rintro e w' ⟨k, found, rfl, rfl, hk, hor⟩)
  · -- not found: the last row
    have hf : found = false := by simpa using ‹(!found) = true›
    have ho : ∀ j, j < l.n → Lf j ≠ c := by
      rcases hor with ⟨h1, _⟩ | ⟨_, h1⟩
      · rw [hf] at h1
        cases h1
      · exact h1
    have HR : Hid (rowOf l.n Lf c l.n) := Or.inr ⟨rfl, ho⟩
    have ha : (l.n : Int) * (wd : Int) = ((l.n * wd : Nat) : Int) := by simp
    have hb : ((l.n : Int) + 1) * (wd : Int) = ((l.n * wd + wd : Nat) : Int) := by rw [Int.add_mul]; simp
    have hle : l.n * wd + wd ≤ mn := by rw [HN.out, Nat.add_mul, Nat.one_mul]; exact Nat.le_refl _
    clear hf ho hor HN
    revert HR
    generalize hA : l.n * wd = a at ha hb hle ⊢
    have HA := hid hA
    clear hA
    intro HR
    go_quiet (fail)
    go_wp2
    go_ret
    exact MaskP.mk HR.out (Nat.le_refl _) HA.out
  · -- found
    have hf : found = true := by simpa using ‹(!found) = false›
    have ho : k < l.n ∧ Lf k = c := by
      rcases hor with ⟨_, h1⟩ | ⟨h1, _⟩
      · exact h1
      · rw [hf] at h1
        cases h1
    have HR : Hid (rowOf l.n Lf c k) := Or.inl ho
    have ha : (k : Int) * (wd : Int) = ((k * wd : Nat) : Int) := by simp
    have hb : ((k : Int) + 1) * (wd : Int) = ((k * wd + wd : Nat) : Int) := by rw [Int.add_mul]; simp
    have hle : k * wd + wd ≤ mn := by
      rw [HN.out, Nat.add_mul, Nat.one_mul]
      have := Nat.mul_le_mul_right wd hk
      omega
    clear hf ho hor HN
    revert HR
    generalize hA : k * wd = a at ha hb hle ⊢
    have HA := hid hA
    clear hA
    intro HR
    go_quiet (fail)
    go_wp2
    go_ret
    exact MaskP.mk HR.out hk HA.out
end Go.Proofs.Qxb6601041a
