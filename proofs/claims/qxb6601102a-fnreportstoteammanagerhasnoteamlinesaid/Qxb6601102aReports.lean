/-
  THE WALKS, S: (*reader).reportsTo, ZZReportsToB1, for an agent that gives no reportsTo and sits in a team of its own.
-/
import Derived.Test.Qxb6601102aPlaceB
namespace Go.Proofs.Qxb6601102a
open Go.RowKit

set_option maxRecDepth 100000 in
set_option maxHeartbeats 1000000 in
theorem reports_any {w : World} {rB cB : Nat} {D : Dat} {ag tm : Sl} {A T Tm : Nat → Nat} {Y : Nat → Sl} (h : Comp w cB D ag tm A T Tm Y) (i d : Nat) (hi : i < D.n) (hd : d < D.K) (hg : D.given i = false) (hM : D.M d = (i : Int)) (m : Value) :
    Calls Try.prog 36 #[.pointer (some ⟨rB, 0, none⟩), .pointer (some ⟨cB, 0, none⟩), .int .i64 i, .int .i64 d, m] w fun e w' => e = .returned (.agg #[.string ⟨#[]⟩, .bool false]) ∧ Below w.heap.size w w' := by
  have hia : i < ag.n := by rw [h.agn]; exact hi
  have hda : d < tm.n := by rw [h.tmn]; exact hd
  have c4 := h.c4
  have c6 := h.c6
  have ix := idx75 h.ags i hia
  have ca := h.ags.cell hia
  have cg := (h.a i hi).given
  rw [hg] at cg
  have ix2 := idx76 h.tms d hda
  have ct := h.tms.cell hda
  have cm := (h.t d hd).mgr
  rw [hM] at cm
  have l1 := block_lt c4
  have l2 := block_lt ca
  have l3 := block_lt cg
  have l4 := block_lt ct
  have l5 := block_lt cm
  have b1 : decide ((d : Int) < 0) = false := by simp
  have b2 : decide ((i : Int) < 0) = false := by simp
  have b3 : decide (0 ≤ (i : Int)) = true := by simp
  clear h hg hM
  go_enter Try.func36, Try.ntmps36
  go_wp2
  refine bodyPost_ret (by simp [results, Try.results36, go_sem]; try rfl) rfl ?_
  exact ⟨rfl, (Below.refl _ _).alloc (Nat.le_refl _) _⟩

def NoLineP (w : World) (e : Ending) (w' : World) : Prop := e = .returned (.tuple #[.string ⟨#[]⟩, .bool false, .slice none 0 0]) ∧ Below w.heap.size w w'

set_option maxRecDepth 100000 in
set_option maxHeartbeats 2000000 in
theorem reportsB_any {w : World} {D : Dat} {x1 x2 x3 x4 x5 x6 x7 x8 : Sl} {R : Nat → Sl} (h : Args w D x1 x2 x3 x4 x5 x6 x7 x8 R) (i d : Nat) (hi : i < D.n) (hd : d < D.K) (hg : D.given i = false) (hM : D.M d = (i : Int)) (m : Value) :
    Calls Try.prog 25 #[.slice none 0 0, .slice x1.s x1.n x1.c, .slice x2.s x2.n x2.c, .slice x3.s x3.n x3.c, .slice x4.s x4.n x4.c, .slice x5.s x5.n x5.c, .slice x6.s x6.n x6.c, .slice x7.s x7.n x7.c, .slice x8.s x8.n x8.c, .int .i64 i, .int .i64 d, m] w (NoLineP w) := by
  have H := hid h
  have HG := hid hg
  have HM := hid hM
  clear h hg hM
  go_enter Try.func25, Try.ntmps25
  have hb0 := hid ((Below.refl w.heap.size w).alloc (Nat.le_refl _) (.cells #[.string ⟨#[]⟩, .map none, .slice none 0 0, .slice none 0 0, .slice none 0 0, .slice none 0 0] 65))
  have hA := hid (H.out.below hb0.out)
  have HC := hid (comp_any D x1 x2 x3 x4 x5 x6 x7 x8 R _ hA.out.h1 hA.out.e1 hA.out.h2 hA.out.h3 hA.out.e3 hA.out.h4 hA.out.e4 hA.out.hn hA.out.h5 hA.out.e5 hA.out.h6 hA.out.e6 hA.out.h7 hA.out.e7 hA.out.h8 hA.out.e8 hA.out.hK hA.out.hrn)
  go_wp2_with fail
  refine HC.out.mono ?_
  rintro e W1 ⟨rfl, hb1, ag, tm, A, T, Tm, Y, hC, hab⟩
  have hrd : W1.rowIs w.heap.size 65 6 rd0 := (rd_new w).of_block (hb1.block _ (by simp))
  simp only [World.size_alloc] at hC
  have HP := hid (reports_any (rB := w.heap.size) hC i d hi hd HG.out HM.out m)
  have HB1 := hid (hb0.out.trans (hb1.mono (by simp)))
  have HRD := hid hrd
  clear HC hb1 hC hab hrd hA hb0
  go_wp2_with fail
  refine HP.out.mono ?_
  rintro e W2 ⟨rfl, hb2⟩
  have hr2 : W2.rowIs w.heap.size 65 6 rd0 := HRD.out.of_block (hb2.block _ HRD.out.lt)
  have hc4 : W2.cell? ⟨w.heap.size, 4, none⟩ = some (.slice none 0 0) := hr2.cell (i := 4) (by omega)
  have hlt := hr2.lt
  have HB2 := hid (HB1.out.trans (hb2.mono HB1.out.size))
  have HQ : Hid (∀ o q, NoLineP w (.returned (.tuple #[.string ⟨#[]⟩, .bool false, .slice none 0 0])) ((W2.alloc o).drewN q)) := fun o q => ⟨rfl, Qxb6601102a.Below.drawn (HB2.out.alloc HB2.out.size o) q⟩
  clear hb2 hr2
  go_wp2_with fail
  go_quiet (fail)
  go_wp2
  go_ret3
  exact HQ.out _ _
end Go.Proofs.Qxb6601102a
