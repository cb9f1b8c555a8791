/-
  THE WALKS, G: strings.Compare; the three closures of place; slices.MinFunc and slices.IndexFunc with them.
-/
import Derived.Test.Qxb6601102aComp
import Derived.Lib.Bytealg
import Derived.Deep.QuietTactic
import Derived.BigQuiet
namespace Go.Proofs.Qxb6601102a
open Go.RowKit

set_option maxHeartbeats 1000000 in
set_option maxRecDepth 100000 in
theorem cmp48_any (a b : ByteArray) (w : World) :
    Calls Try.prog 48 #[.string a, .string b] w fun e w' => e = .returned (.int .i64 (Lib.compareBytes a.data.toList b.data.toList)) ∧ w' = w := by
  go_enter Try.func48, Try.ntmps48
  go_wp2
  rw [run_callFunc_extern Try.func52 (by kernel_rfl) (by kernel_rfl) (by kernel_rfl) (e := Extern.BytealgCompare.compare) (by kernel_rfl), Lib.run_compareString]
  simp only [Result.andThen]
  rw [Oper.upon_value]
  go_wp2
  go_ret
  exact ⟨rfl, rfl⟩

def cmpS (a b : ByteArray) : Int := Lib.compareBytes a.data.toList b.data.toList
theorem cmp_any (a b : ByteArray) (w : World) :
    Calls Try.prog 41 #[.string a, .string b] w fun e w' => e = .returned (.int .i64 (cmpS a b)) ∧ w' = w := by
  have hc := fun w => cmp48_any a b w
  unfold cmpS
  generalize Lib.compareBytes a.data.toList b.data.toList = r at hc ⊢
  go_enter Try.func41, Try.ntmps41
  go_wp2_with (go_at_call 48; refine (hc _).mono ?_; rintro e w' ⟨rfl, rfl⟩)
  go_ret
  exact ⟨rfl, rfl⟩

/-- What the closures find: the company behind the box bc. -/
structure Env (w : World) (bc cB : Nat) (D : Dat) (ag tm : Sl) (A T Tm : Nat → Nat) (Y : Nat → Sl) : Prop where
  box : w.cell? ⟨bc, 0, none⟩ = some (.pointer (some ⟨cB, 0, none⟩))
  comp : Comp w cB D ag tm A T Tm Y
theorem Env.drewN {w : World} {bc cB : Nat} {D : Dat} {ag tm : Sl} {A T Tm : Nat → Nat} {Y : Nat → Sl} (h : Env w bc cB D ag tm A T Tm Y) (q : Nat) : Env (w.drewN q) bc cB D ag tm A T Tm Y :=
  ⟨h.box, ⟨h.comp.c4, h.comp.c6, h.comp.agn, h.comp.tmn, h.comp.ags.drewN q, h.comp.tms.drewN q, fun j hj => ⟨(h.comp.a j hj).slug, (h.comp.a j hj).given, (h.comp.a j hj).rep, (h.comp.a j hj).txt⟩, fun j hj => ⟨(h.comp.t j hj).file, (h.comp.t j hj).id, (h.comp.t j hj).mgr, (h.comp.t j hj).named, (h.comp.t j hj).row.drewN q, (h.comp.t j hj).len⟩⟩⟩

set_option maxHeartbeats 1000000 in
theorem c40_any {w : World} {bc cB : Nat} {D : Dat} {ag tm : Sl} {A T Tm : Nat → Nat} {Y : Nat → Sl} (h : Env w bc cB D ag tm A T Tm Y) (k l : Nat) (hk : k < D.K) (hl : l < D.K) :
    Calls Try.prog 40 #[.int .i64 k, .int .i64 l, .pointer (some ⟨bc, 0, none⟩)] w fun e w' => e = .returned (.int .i64 (cmpS (D.ti k) (D.ti l))) ∧ ∃ q, w' = w.drewN q := by
  have hbox := h.box
  have hc6 := h.comp.c6
  have hkt : k < tm.n := by rw [h.comp.tmn]; exact hk
  have hlt : l < tm.n := by rw [h.comp.tmn]; exact hl
  have hi1 := idx76 h.comp.tms k hkt
  have hi2 := idx76 h.comp.tms l hlt
  have h1 := h.comp.tms.cell hkt
  have h2 := h.comp.tms.cell hlt
  have h3 := (h.comp.t k hk).id
  have h4 := (h.comp.t l hl).id
  have hcmp := fun n => cmp_any (D.ti k) (D.ti l) (w.drewN n)
  clear h
  go_enter Try.func40, Try.ntmps40
  go_wp2
  go_quiet ((go_at_call 41; exact Calls.quiet_of_same (hcmp _)))
  go_wp2
  go_ret
  exact ⟨rfl, _, rfl⟩

set_option maxHeartbeats 1000000 in
theorem c44_any {w : World} {bc cB : Nat} {D : Dat} {ag tm : Sl} {A T Tm : Nat → Nat} {Y : Nat → Sl} (h : Env w bc cB D ag tm A T Tm Y) (k bi i : Nat) (hk : k < D.K) (hbi : w.cell? ⟨bi, 0, none⟩ = some (.int .i64 i)) :
    Calls Try.prog 44 #[.int .i64 k, .pointer (some ⟨bc, 0, none⟩), .pointer (some ⟨bi, 0, none⟩)] w fun e w' => e = .returned (.bool (D.M k != i)) ∧ ∃ q, w' = w.drewN q := by
  have hbox := h.box
  have hc6 := h.comp.c6
  have hkt : k < tm.n := by rw [h.comp.tmn]; exact hk
  have hi1 := idx76 h.comp.tms k hkt
  have h1 := h.comp.tms.cell hkt
  have h3 := (h.comp.t k hk).mgr
  clear h
  go_enter Try.func44, Try.ntmps44
  go_wp2
  go_quiet (fail)
  go_wp2
  go_ret
  exact ⟨rfl, _, rfl⟩

/-- The team k's manager is the one that agent i's line names. -/
def under (D : Dat) (i k : Nat) : Bool := D.hr i && decide (0 ≤ D.M k) && ((D.slug (D.M k).toNat).toList == (D.rep i).toList)

set_option maxRecDepth 100000 in
set_option maxHeartbeats 1000000 in
theorem c45_any {w : World} {bc cB : Nat} {D : Dat} {ag tm : Sl} {A T Tm : Nat → Nat} {Y : Nat → Sl} (h : Env w bc cB D ag tm A T Tm Y) (k ba i : Nat) (hk : k < D.K) (hi : i < D.n) (hM : D.M k < D.n) (hba : w.cell? ⟨ba, 0, none⟩ = some (.pointer (some ⟨A i, 0, none⟩))) :
    Calls Try.prog 45 #[.int .i64 k, .pointer (some ⟨bc, 0, none⟩), .pointer (some ⟨ba, 0, none⟩)] w fun e w' => e = .returned (.bool (!under D i k)) ∧ ∃ q, w' = w.drewN q := by
  have hbox := h.box
  have hc6 := h.comp.c6
  have hc4 := h.comp.c4
  have hkt : k < tm.n := by rw [h.comp.tmn]; exact hk
  have hi1 := idx76 h.comp.tms k hkt
  have h1 := h.comp.tms.cell hkt
  have h3 := (h.comp.t k hk).mgr
  have h4 := (h.comp.a i hi).rep
  cases hhr : D.hr i with
  | false =>
    have HU : Hid (under D i k = false) := by unfold Hid under; rw [hhr]; rfl
    rw [hhr] at h4
    simp only [Bool.false_eq_true, if_false] at h4
    clear h
    go_enter Try.func45, Try.ntmps45
    go_wp2
    go_quiet (fail)
    go_wp2
    go_ret
    exact ⟨by rw [HU.out]; rfl, _, rfl⟩
  | true =>
    have h5 := (h.comp.a i hi).txt hhr
    rw [hhr] at h4
    simp only [if_true] at h4
    by_cases hm : D.M k < 0
    · have HU : Hid (under D i k = false) := by unfold Hid under; rw [decide_eq_false (by omega)]; simp
      have hmd : decide (D.M k < 0) = true := by simpa using hm
      clear h
      go_enter Try.func45, Try.ntmps45
      go_wp2
      go_quiet (fail)
      go_wp2
      go_ret
      exact ⟨by rw [HU.out]; rfl, _, rfl⟩
    · obtain ⟨m, hmm⟩ := Int.eq_ofNat_of_zero_le (show 0 ≤ D.M k by omega)
      have hmn : m < D.n := by omega
      have hma : m < ag.n := by rw [h.comp.agn]; exact hmn
      have hi2 := idx75 h.comp.ags m hma
      have h6 := h.comp.ags.cell hma
      have h7 := (h.comp.a m hmn).slug
      have HU : Hid (under D i k = ((D.slug m).toList == (D.rep i).toList)) := by
        unfold Hid under
        rw [hhr, hmm, decide_eq_true (by omega)]
        simp
      rw [hmm] at h3
      have hmd : decide ((m : Int) < 0) = false := by simp
      clear h hm hM hmm
      go_enter Try.func45, Try.ntmps45
      go_wp2
      go_quiet (fail)
      go_wp2
      go_ret
      exact ⟨by rw [HU.out]; rfl, _, rfl⟩
end Go.Proofs.Qxb6601102a
