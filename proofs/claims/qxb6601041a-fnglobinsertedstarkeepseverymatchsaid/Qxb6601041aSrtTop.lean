/-
  slices.Sort at rune: the row holds the same runes in ascending order; nothing else turns but draws and new blocks.
-/
import Derived.Test.Qxb6601041aSrt13
import Derived.Test.Qxb6601041aShelf
import Derived.Sort.AssemblyPlain
import Derived.Sort.WalkA14
namespace Go.Proofs.Qxb6601041a
open Go.RowKit Go.Sort

theorem calleesR : CalleesR where
  ins := so_insertionSort_int
  brk := so_breakPatterns_int
  piv := so_choosePivot_int
  par := so_partialInsertionSort_int
  peq := so_partitionEqualOrdered_int
  prt := so_partitionOrdered_int

theorem plainR : Plain13 := ⟨swo_ltInt, insertionSort_holds, partialInsertionSort_holds, partition_holds _, partitionEqual_holds _, pdq_sorts _⟩

set_option maxRecDepth 100000 in
set_option maxHeartbeats 1000000 in
theorem sort_any (blk off cap : Nat) (d : Array Int) (w : World) (hH : Holds (Value.int .i32) w blk off d) (hblk : blk < w.heap.size) (hsz : d.size < 4611686018427387904) :
    Calls Try.prog 49 #[.slice (some ⟨blk, off, none⟩) d.size cap] w fun e w' => e = .returned (.tuple #[]) ∧ ∃ n os, w' = grow (putRow (Value.int .i32) (Sort.ahead w n) blk off (Sort.sort ltInt d)) os := by
  have HH : Hid (Holds (Value.int .i32) w blk off d) := hH
  clear hH
  have hLen : ∀ w, Calls Try.prog 53 #[.int .u64 (d.size : Int)] w fun e w' => e = .returned (.int .i64 (bitsLen d.size : Nat)) ∧ w' = w := fun w => by
    have h := so_bits_Len (d.size : Int) w (by omega) (by omega)
    rwa [Int.toNat_natCast, bitLen_eq _ (by omega)] at h
  have hk : bitsLen d.size ≤ 62 := (bitsLen_le_iff d.size 62).2 (by omega)
  have hpdq := so_pdqsort_int calleesR plainR (d.size + 1) blk off cap 0 d.size (bitsLen d.size) d
  go_enter Try.func49, Try.ntmps49
  go_wp2_with (first
    | (go_at_call 53; refine (hLen _).mono ?_; rintro e w' ⟨rfl, rfl⟩)
    | (go_at_call 52; refine (hpdq _ (by omega) (by exact HH.out) (by exact hblk) (Nat.zero_le _) (Nat.le_refl _) hsz (by omega) (Or.inl rfl)).mono ?_; rintro e w' ⟨rfl, n, os, rfl⟩))
  go_end0
  exact ⟨rfl, n, os, rfl⟩

theorem sort_runes (blk off cap : Nat) (zs : List Int) (w : World) (hH : Holds (Value.int .i32) w blk off zs.toArray) (hblk : blk < w.heap.size) (hsz : zs.length < 4611686018427387904) :
    Calls Try.prog 49 #[.slice (some ⟨blk, off, none⟩) zs.length cap] w fun e w' =>
      e = .returned (.tuple #[]) ∧ ∃ n os, w' = grow (putRow (Value.int .i32) (Sort.ahead w n) blk off (zs.mergeSort fun x y => decide (x ≤ y)).toArray) os := by
  have h := sort_any blk off cap zs.toArray w hH hblk (by simpa using hsz)
  rw [show Sort.sort ltInt zs.toArray = (zs.mergeSort fun x y => decide (x ≤ y)).toArray by rw [← sortInt zs]] at h
  simpa using h
end Go.Proofs.Qxb6601041a
