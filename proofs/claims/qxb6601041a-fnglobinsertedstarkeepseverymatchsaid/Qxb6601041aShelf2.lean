/-
  The shelf's contracts laid at this program: slices.Compact, slices.Index at rune.
-/
import Derived.Test.Qxb6601041aRows
import Derived.Shelf.SlicesE.Compact
import Derived.Shelf.SlicesE.Index
import Derived.Ground.SlgnProg
namespace Go.Proofs
open Go.Shelf Go.Sort Go.Lib
shelf_lay_g SlLaysE.n43 Slgn 43 at Try 50 as Qxb6601041a.laysCompact
shelf_lay_g SlLaysE.n29 Slgn 29 at Try 47 as Qxb6601041a.laysIndex
namespace Qxb6601041a
theorem zero21 (w : World) : (zeroValue 21).run Try.prog w = .ok (.int .i32 0) w := by kernel_rfl

theorem compact_any (blk off cap : Nat) (d : Array Int) (w : World) (hH : Holds (Value.int .i32) w blk off d) (hsz : d.size ≤ 9223372036854775807) (hcap : d.size ≤ cap) :
    Calls Try.prog 50 #[.slice (some ⟨blk, off, none⟩) d.size cap] w fun e w' => e = .returned (.slice (some ⟨blk, off, none⟩) (compactUpTo d d.size).length cap) ∧ ∃ q, w' = putRow (Value.int .i32) (Sort.ahead w q) blk off (compactUpTo d d.size ++ List.replicate (d.size - (compactUpTo d d.size).length) 0).toArray :=
  AnyE.slices_Compact laysCompact (Value.int .i32) (fun _ => rfl) (EqlAt.intD _ _ _) (NeqAt.intD _ _ _) 0 zero21 blk off cap d w hH hsz hcap

theorem index_any (b off n c : Nat) (zs : List Int) (x : Int) (w : World) (hz : n ≤ zs.length) (hbig : n ≤ 9223372036854775807) (hc : ∀ j, j < zs.length → w.cell? ⟨b, off + j, none⟩ = some (.int .i32 zs[j]!)) :
    Calls Try.prog 47 #[.slice (some ⟨b, off, none⟩) n c, .int .i32 x] w fun e w' => e = .returned (.int .i64 (Lib.idxBy (fun x y => x == y) (zs.take n) x)) ∧ w' = w :=
  AnyE.slices_Index laysIndex (Value.int .i32) (fun x y => x == y) (EqlAt.int _ _ _) b off n c zs x w hz hbig hc
theorem index_empty (a : Option Addr) (c : Nat) (x : Value) (w : World) :
    Calls Try.prog 47 #[.slice a 0 c, x] w fun e w' => e = .returned (.int .i64 (-1)) ∧ w' = w := AnyE.slices_Index_empty laysIndex a c x w
end Qxb6601041a
end Go.Proofs
