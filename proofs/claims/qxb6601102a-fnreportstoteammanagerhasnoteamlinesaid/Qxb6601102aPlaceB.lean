/-
  THE WALKS, M: ZZPlaceB1.
-/
import Derived.Test.Qxb6601102aPlaceA
import Derived.Test.Qxb6601102aComp
import Derived.BigQuiet
namespace Go.Proofs.Qxb6601102a
open Go.RowKit

/-- The arguments as they lie in w. -/
structure Args (w : World) (D : Dat) (x1 x2 x3 x4 x5 x6 x7 x8 : Sl) (R : Nat → Sl) : Prop where
  h1 : Strs w x1 D.slug
  e1 : x1.n = D.n
  h2 : (x2.n = 0 ∧ ∀ i, D.given i = false) ∨ (x2.n = x1.n ∧ Bools w x2 D.given)
  h3 : Bools w x3 D.hr
  e3 : x3.n = x1.n
  h4 : Strs w x4 D.rep
  e4 : x4.n = x1.n
  hn : x1.n ≤ 4096
  h5 : Strs w x5 D.tf
  e5 : x5.n = x7.n
  h6 : Strs w x6 D.ti
  e6 : x6.n = x7.n
  h7 : Ints w x7 D.M
  e7 : x7.n = D.K
  h8 : Intss w x8 R D.Z
  e8 : x8.n = x7.n
  hK : x7.n ≤ 4096
  hrn : ∀ k, k < x7.n → (R k).n = D.nm k ∧ (R k).n ≤ 1048576
  M : ∀ k, k < D.K → D.M k < D.n
  Z : ∀ k, k < D.K → ∀ j, j < D.nm k → 0 ≤ D.Z k j ∧ D.Z k j < D.n

theorem Args.below {w w' : World} {D : Dat} {x1 x2 x3 x4 x5 x6 x7 x8 : Sl} {R : Nat → Sl} (h : Args w D x1 x2 x3 x4 x5 x6 x7 x8 R) (hb : Below w.heap.size w w') : Args w' D x1 x2 x3 x4 x5 x6 x7 x8 R :=
  ⟨h.h1.below hb, h.e1, h.h2.imp id (fun ⟨a, b⟩ => ⟨a, b.below hb⟩), h.h3.below hb, h.e3, h.h4.below hb, h.e4, h.hn, h.h5.below hb, h.e5, h.h6.below hb, h.e6, h.h7.below hb, h.e7, h.h8.below hb, h.e8, h.hK, h.hrn, h.M, h.Z⟩

def PlacedP (w : World) (D : Dat) (e : Ending) (w' : World) : Prop :=
  ∃ dB s c B, e = .returned (.tuple #[.slice (some ⟨dB, 0, none⟩) D.n D.n, .slice s (dl D D.K).length c]) ∧ (w'.rowIs dB 3 D.n fun j => .int .i64 (dept D j)) ∧ w'.ownsRow B 43 3 (.slice s (dl D D.K).length c) (dl D D.K).length (noteCells D (dl D D.K)) ∧ Below w.heap.size w w'

/-- An empty reader's six cells. -/
def rd0 (j : Nat) : Value := if j = 0 then .string ⟨#[]⟩ else if j = 1 then .map none else .slice none 0 0
theorem rd_new (w : World) : (w.alloc (.cells #[.string ⟨#[]⟩, .map none, .slice none 0 0, .slice none 0 0, .slice none 0 0, .slice none 0 0] 65)).rowIs w.heap.size 65 6 rd0 :=
  World.rowIs_alloc _ _ _ _ fun i hi => by
    match i, hi with
    | 0, _ => rfl
    | 1, _ => rfl
    | 2, _ => rfl
    | 3, _ => rfl
    | 4, _ => rfl
    | 5, _ => rfl

/-- ZZPlaceB1 as far as place's call. -/
theorem placeIn_of {w w' : World} {D : Dat} {x1 x2 x3 x4 x5 x6 x7 x8 : Sl} {R : Nat → Sl} (h : Args w D x1 x2 x3 x4 x5 x6 x7 x8 R) {rB cB : Nat} {ag tm : Sl} {A T Tm : Nat → Nat} {Y : Nat → Sl}
    (hr : w'.rowIs rB 65 6 rd0) (hc : Comp w' cB D ag tm A T Tm Y) (ha : Above (rB + 1) D cB ag tm A T Tm Y) : PlaceIn w' rB cB rd0 D ag tm A T Tm Y :=
  ⟨hr, rfl, hc, by have := h.e1; have := h.hn; omega, by have := h.e7; have := h.hK; omega, fun k hk => by have := h.hrn k (by have := h.e7; omega); omega, h.M, h.Z, ha⟩

set_option maxRecDepth 100000 in
set_option maxHeartbeats 2000000 in
theorem placeB_any {w : World} {D : Dat} {x1 x2 x3 x4 x5 x6 x7 x8 : Sl} {R : Nat → Sl} (h : Args w D x1 x2 x3 x4 x5 x6 x7 x8 R) :
    Calls Try.prog 18 #[.slice none 0 0, .slice x1.s x1.n x1.c, .slice x2.s x2.n x2.c, .slice x3.s x3.n x3.c, .slice x4.s x4.n x4.c, .slice x5.s x5.n x5.c, .slice x6.s x6.n x6.c, .slice x7.s x7.n x7.c, .slice x8.s x8.n x8.c] w (PlacedP w D) := by
  have H := hid h
  clear h
  go_enter Try.func18, Try.ntmps18
  have hb0 := hid ((Below.refl w.heap.size w).alloc (Nat.le_refl _) (.cells #[.string ⟨#[]⟩, .map none, .slice none 0 0, .slice none 0 0, .slice none 0 0, .slice none 0 0] 65))
  have hA := hid (H.out.below hb0.out)
  have HC := hid (comp_any D x1 x2 x3 x4 x5 x6 x7 x8 R _ hA.out.h1 hA.out.e1 hA.out.h2 hA.out.h3 hA.out.e3 hA.out.h4 hA.out.e4 hA.out.hn hA.out.h5 hA.out.e5 hA.out.h6 hA.out.e6 hA.out.h7 hA.out.e7 hA.out.h8 hA.out.e8 hA.out.hK hA.out.hrn)
  go_wp2_with fail
  refine HC.out.mono ?_
  rintro e W1 ⟨rfl, hb1, ag, tm, A, T, Tm, Y, hC, hab⟩
  have hrd : W1.rowIs w.heap.size 65 6 rd0 := (rd_new w).of_block (hb1.block _ (by simp))
  simp only [World.size_alloc] at hC hab
  have HP := hid (place_any (placeIn_of H.out hrd hC hab))
  have HB1 := hid (hb0.out.trans (hb1.mono (by simp)))
  have hs1 := HB1.out.size
  clear HC hb1 hC hab hrd hA hb0
  go_wp2_with fail
  refine HP.out.mono ?_
  rintro e W2 ⟨dB, s, c, B, rfl, h1, h2, hdr, hrr, hown, hg⟩
  have hc4 := hrr.cell (i := 4) (by omega)
  have he : setAt rd0 4 (.slice s (dl D D.K).length c) 4 = .slice s (dl D D.K).length c := rfl
  rw [he] at hc4
  have HZ : Hid (PlacedP w D (.returned (.tuple #[.slice (some ⟨dB, 0, none⟩) D.n D.n, .slice s (dl D D.K).length c])) W2) :=
    ⟨dB, s, c, B, rfl, hdr, hown, HB1.out.grown hg HB1.out.size (fun k e => by cases e; exact Nat.le_refl _)⟩
  have HQ : Hid (∀ q, PlacedP w D (.returned (.tuple #[.slice (some ⟨dB, 0, none⟩) D.n D.n, .slice s (dl D D.K).length c])) (W2.drewN q)) := fun q =>
    ⟨dB, s, c, B, rfl, hdr, hown, Qxb6601102a.Below.drawn (HB1.out.grown hg HB1.out.size (fun k e => by cases e; exact Nat.le_refl _)) q⟩
  clear hdr hrr hown hg h1 h2 HZ he
  go_wp2_with fail
  go_quiet (fail)
  go_wp2
  go_ret2
  exact HQ.out _
end Go.Proofs.Qxb6601102a
