/-
  Seat b6601041a: the thin shims: ZZNewGlob, ZZAdd, ZZNewFolded, zzOneRun, ZZFind.
-/
import Derived.Test.Qxb6601041aAdd
import Derived.Test.Qxb6601041aFindB
namespace Go.Proofs.Qxb6601041a
open Go.RowKit

set_option maxRecDepth 100000 in
set_option maxHeartbeats 1000000 in
theorem newGlob_any (w : World) (b : Bool) : Calls Try.prog 27 #[.bool b] w fun e w' => e = .returned (.pointer (some ⟨w.heap.size, 0, none⟩)) ∧ w' = w.alloc (.cells #[.slice none 0 0, .slice none 0 0, .slice none 0 0, .slice none 0 0, .bool b] 62) := by
  go_enter Try.func27, Try.ntmps27
  go_wp2
  go_ret
  exact ⟨rfl, rfl⟩

set_option maxRecDepth 100000 in
set_option maxHeartbeats 1000000 in
theorem newFolded_any (w : World) (x y : Sl) : Calls Try.prog 16 #[.slice x.s x.n x.c, .slice y.s y.n y.c] w fun e w' => e = .returned (.pointer (some ⟨w.heap.size, 0, none⟩)) ∧ w' = w.alloc (.cells #[.slice x.s x.n x.c, .slice y.s y.n y.c, .slice none 0 0] 52) := by
  go_enter Try.func16, Try.ntmps16
  go_wp2
  go_ret
  exact ⟨rfl, rfl⟩

/-- The glob that is new. -/
theorem gp_new (w : World) (b : Bool) : GP (w.alloc (.cells #[.slice none 0 0, .slice none 0 0, .slice none 0 0, .slice none 0 0, .bool b] 62)) w.heap.size (.bool b) (w.alloc (.cells #[.slice none 0 0, .slice none 0 0, .slice none 0 0, .slice none 0 0, .bool b] 62)) [] [] [] 0 [] (.slice none 0 0) (.slice none 0 0) (.slice none 0 0) (.slice none 0 0) :=
  ⟨heap_alloc_new w _, World.ownsRow_nil _ _ _ _, World.ownsRow_nil _ _ _ _, World.ownsRow_nil _ _ _ _, World.ownsRow_nil _ _ _ _, fun b h => (by cases h), Below.refl _ _⟩

set_option maxRecDepth 100000 in
set_option maxHeartbeats 1000000 in
theorem zzadd_any {w : World} {gb : Nat} {wv : Value} {Cs Ls : List Int} {Ms : List Nat} {ns : Nat} {Ss : List Value} {vc vl vm vs : Value} (h : GP w gb wv w Cs Ls Ms ns Ss vc vl vm vs) (x : Sl) (C : Nat → Int) (hx : Runes w x C) (hxb : 0 < x.n → x.b < gb) (gap : Nat)
    (b0 : x.n ≤ 4096) (b1 : Cs.length ≤ 1048576) (b2 : Ls.length ≤ 1048576) (b3 : Ms.length ≤ 67108864) (b4 : ns ≤ 1048576) (b5 : gap ≤ 1048576) :
    Calls Try.prog 28 #[.pointer (some ⟨gb, 0, none⟩), .int .i64 gap, .slice x.s x.n x.c] w (AddP w gb wv Cs Ls Ms ns Ss x.n C gap) := by
  have HA := hid (add_any h x C hx hxb gap b0 b1 b2 b3 b4 b5)
  clear h hx hxb
  go_enter Try.func28, Try.ntmps28
  go_wp2_with (go_at_call 41; refine HA.out.mono ?_; rintro e w' ⟨rfl, hA⟩)
  go_end0
  exact ⟨rfl, hA⟩

/-- zzOneRun: a glob of one run. -/
def OneP (w : World) (n : Nat) (C : Nat → Int) (e : Ending) (w' : World) : Prop :=
  e = .returned (.pointer (some ⟨w.heap.size, 0, none⟩)) ∧ ∃ cs F vc vl vm vs, AddW (w.alloc (.cells #[.slice none 0 0, .slice none 0 0, .slice none 0 0, .slice none 0 0, .bool false] 62)) w.heap.size (.bool false) [] [] [] 0 [] n C 0 cs F vc vl vm vs w'

set_option maxRecDepth 100000 in
set_option maxHeartbeats 1000000 in
theorem oneRun_any {w : World} (x : Sl) (C : Nat → Int) (hx : Runes w x C) (b0 : x.n ≤ 4096) :
    Calls Try.prog 21 #[.slice x.s x.n x.c] w (OneP w x.n C) := by
  have HA := hid (zzadd_any (gp_new w false) x C (hx.kept (fun h0 => Below.heap_alloc _ _ _ (hx.blk h0))) (fun h0 => hx.blk h0) 0 b0 (by simp) (by simp) (by simp) (by omega) (by omega))
  clear hx
  go_enter Try.func21, Try.ntmps21
  go_wp2_with (first | (go_at_call 27; refine (newGlob_any _ _).mono ?_; rintro e w' ⟨rfl, rfl⟩) | (go_at_call 28; refine HA.out.mono ?_; rintro e w' ⟨rfl, hA⟩))
  go_ret
  exact ⟨rfl, hA⟩
end Go.Proofs.Qxb6601041a
