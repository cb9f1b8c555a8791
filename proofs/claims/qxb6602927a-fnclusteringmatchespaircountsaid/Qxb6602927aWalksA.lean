/-
  THE WALKS, A: the graph as it lies in memory; slices.Index, slices.Contains, zzMetricsB1HasEdge, the two size guards.
-/
import Derived.Test.Qxb6602927aRows
import Derived.Test.Qxb6602927aPlain
import Derived.WalkKit
import Derived.WalkSpells
import Derived.WalkLawsBesides
namespace Go.Proofs.Qxb6602927a
open Go.RowKit

/-- A slice of int32: element i is z i. -/
def Row (w : World) (s : Option Addr) (n b off : Nat) (z : Nat → Int) : Prop :=
  ∀ i, i < n → s = some ⟨b, off, none⟩ ∧ w.cell? ⟨b, off + i, none⟩ = some (.int .i32 (z i))

theorem sizeOf21 (w : World) : (sizeOf 21).run Try.prog w = .ok 1 w := by kernel_rfl
theorem sizeOf28 (w : World) : (sizeOf 28).run Try.prog w = .ok 1 w := by kernel_rfl
theorem row_idx {w : World} {s : Option Addr} {n b off : Nat} {z : Nat → Int} (h : Row w s n b off z) (c : Nat) (i : Nat) (hi : i < n) (w' : World) :
    (Instr.indexAt 28 (.slice s n c) (.int .i64 i)).run Try.prog w' = .ok (.pointer (some ⟨b, off + i, none⟩)) w' := by
  rw [(h i hi).1, run_indexAt_slice (P := Try.prog) w' 28 ⟨b, off, none⟩ n c .i64 i (by simp [Program.elem, Try.underlying28])]
  have hel : Try.prog.elem 28 = 21 := by simp [Program.elem, Try.underlying28]
  rw [if_pos ⟨by omega, by omega⟩, hel, sizeOf21]
  simp [Result.andThen, Addr.add]

set_option maxHeartbeats 400000 in
theorem index_any (s : Option Addr) (n c b off : Nat) (z : Nat → Int) (x : Int) (w : World) (hn : n ≤ 9223372036854775807) (h : Row w s n b off z) :
    Calls Try.prog 13 #[.slice s n c, .int .i32 x] w fun e w' => ∃ r : Int, e = .returned (.int .i64 r) ∧ w' = w ∧ ((0 ≤ r ∧ hasB n z x = true) ∨ (r = -1 ∧ hasB n z x = false)) := by
  go_enter Try.func13, Try.ntmps13
  go_wp2
  go_loop [8, 5] (fun i _ => ∃ k : Nat, k ≤ n ∧ i = .int .i64 k ∧ (∀ j, j < k → z j ≠ x)) (fun i _ => n - (intOf i).toNat)
  case atStart => exact ⟨0, Nat.zero_le _, rfl, fun j h => absurd h (Nat.not_lt_zero j)⟩
  case round =>
    obtain ⟨k, hk, rfl, hd⟩ := hrel
    have HD : Hid (∀ j, j < k → z j ≠ x) := hd
    clear hd
    by_cases hlt : k < n
    · have hix := row_idx h c k hlt
      have hc := (h k hlt).2
      have hz : Hid ((x == z k) = true → z k = x) := fun e => (beq_iff_eq.1 e).symm
      have hz2 : Hid ((x == z k) = false → z k ≠ x) := fun e h => beq_eq_false_iff_ne.1 e h.symm
      clear h
      go_wp2
      · go_ret
        exact ⟨k, rfl, rfl, Or.inl ⟨by omega, hasB_true ⟨k, hlt, hz.out ‹_›⟩⟩⟩
      · go_round
        case rel => exact ⟨k + 1, by omega, by go_num, fun j hj => by
          by_cases e : j = k
          · subst e; exact hz2.out ‹_›
          · exact HD.out j (by omega)⟩
        case measure => simp [intOf]; omega
    · clear h
      go_wp2
      go_ret
      exact ⟨-1, rfl, rfl, Or.inr ⟨rfl, hasB_false fun ⟨i, hi, he⟩ => HD.out i (by omega) he⟩⟩

theorem ret_bool {a b : Bool} (h : a = b) : Ending.returned (.bool a) = .returned (.bool b) := by rw [h]

set_option maxHeartbeats 400000 in
theorem contains_any (s : Option Addr) (n c b off : Nat) (z : Nat → Int) (x : Int) (w : World) (hn : n ≤ 9223372036854775807) (h : Row w s n b off z) :
    Calls Try.prog 11 #[.slice s n c, .int .i32 x] w fun e w' => e = .returned (.bool (hasB n z x)) ∧ w' = w := by
  have hi := fun w' h' => index_any s n c b off z x w' hn h'
  go_enter Try.func11, Try.ntmps11
  go_wp2_with fail
  refine (hi _ h).mono ?_
  rintro e w' ⟨r, rfl, hw, hr⟩
  subst hw
  have HR : Hid ((0 ≤ r ∧ hasB n z x = true) ∨ (r = -1 ∧ hasB n z x = false)) := hr
  clear hr hi h
  go_wp2
  go_ret
  refine ⟨ret_bool ?_, rfl⟩
  rcases HR.out with ⟨h0, h1⟩ | ⟨h0, h1⟩
  · rw [h1]; simpa using h0
  · rw [h1, h0]; decide

/-! ### The graph -/
structure Gph where
  a : Option Addr
  n : Nat
  cap : Nat
  gb : Nat
  go : Nat
  S : Nat → Option Addr
  L : Nat → Nat
  C : Nat → Nat
  B : Nat → Nat
  O : Nat → Nat
  Z : Nat → Nat → Int

structure Gph.In (G : Gph) (w : World) : Prop where
  g : ∀ v, v < G.n → G.a = some ⟨G.gb, G.go, none⟩ ∧ w.cell? ⟨G.gb, G.go + v, none⟩ = some (.slice (G.S v) (G.L v) (G.C v))
  r : ∀ v, v < G.n → Row w (G.S v) (G.L v) (G.B v) (G.O v) (G.Z v)
  n : G.n ≤ 9223372036854775807
  l : ∀ v, v < G.n → G.L v ≤ 9223372036854775807
  gblk : ∀ v, v < G.n → G.gb < w.heap.size
  rblk : ∀ v, v < G.n → ∀ i, i < G.L v → G.B v < w.heap.size
  wf : ∀ v, v < G.n → ∀ i, i < G.L v → -2147483648 ≤ G.Z v i ∧ G.Z v i ≤ 2147483647

theorem g_idx {G : Gph} {w : World} (h : G.In w) (t : TypeId) (ht : t = 22 ∨ t = 25) (k : IntKind) (v : Nat) (hv : v < G.n) (w' : World) :
    (Instr.indexAt t (.slice G.a G.n G.cap) (.int k v)).run Try.prog w' = .ok (.pointer (some ⟨G.gb, G.go + v, none⟩)) w' := by
  have hu : Try.prog.underlying t = some (.slice 28) := by rcases ht with rfl | rfl <;> (first | exact Try.underlying22 | exact Try.underlying25)
  have hel : Try.prog.elem t = 28 := by simp [Program.elem, hu]
  rw [(h.g v hv).1, run_indexAt_slice (P := Try.prog) w' t ⟨G.gb, G.go, none⟩ G.n G.cap k v (by rw [hel]; exact hu)]
  rw [if_pos ⟨by omega, by omega⟩, hel, sizeOf28]
  simp [Result.andThen, Addr.add]

set_option maxHeartbeats 400000 in
theorem hasEdge_any (G : Gph) (u : Nat) (x : Int) (w : World) (h : G.In w) (hu : u < G.n) :
    Calls Try.prog 12 #[.slice G.a G.n G.cap, .int .i32 u, .int .i32 x] w fun e w' => e = .returned (.bool (hasB (G.L u) (G.Z u) x)) ∧ w' = w := by
  have hix := g_idx h 22 (Or.inl rfl) .i32 u hu
  have hc := (h.g u hu).2
  have hl := h.l u hu
  have hr := h.r u hu
  clear h
  go_enter Try.func12, Try.ntmps12
  go_wp2
  go_loop [8] (fun i => ∃ k : Nat, k ≤ G.L u ∧ i = .int .i64 k ∧ (∀ j, j < k → G.Z u j ≠ x)) (fun i => G.L u - (intOf i).toNat)
  case atStart => exact ⟨0, Nat.zero_le _, rfl, fun j h => absurd h (Nat.not_lt_zero j)⟩
  case round =>
    obtain ⟨k, hk, rfl, hd⟩ := hrel
    have HD : Hid (∀ j, j < k → G.Z u j ≠ x) := hd
    clear hd
    by_cases hlt : k < G.L u
    · have hix2 := row_idx hr (G.C u) k hlt
      have hc2 := (hr k hlt).2
      have hz : Hid ((G.Z u k == x) = true → G.Z u k = x) := fun e => (beq_iff_eq.1 e)
      have hz2 : Hid ((G.Z u k == x) = false → G.Z u k ≠ x) := fun e h => beq_eq_false_iff_ne.1 e h
      clear hr
      go_wp2
      · go_ret
        exact ⟨ret_bool (hasB_true ⟨k, hlt, hz.out ‹_›⟩).symm, rfl⟩
      · go_round
        case rel => exact ⟨k + 1, by omega, by go_num, fun j hj => by
          by_cases e : j = k
          · subst e; exact hz2.out ‹_›
          · exact HD.out j (by omega)⟩
        case measure => simp [intOf]; omega
    · clear hr
      go_wp2
      go_ret
      exact ⟨ret_bool (hasB_false fun ⟨i, hi, he⟩ => HD.out i (by omega) he).symm, rfl⟩

/-- Some bool comes back, the world is as it was. -/
def SomeB (w : World) (e : Ending) (w' : World) : Prop := ∃ b : Bool, e = .returned (.bool b) ∧ w' = w
theorem SomeB.mk {w : World} (b : Bool) : SomeB w (.returned (.bool b)) w := ⟨b, rfl, rfl⟩

set_option maxHeartbeats 400000 in
theorem bytes_any (G : Gph) (w : World) (h : G.In w) :
    Calls Try.prog 5 #[.slice G.a G.n G.cap] w (SomeB w) := by
  have hn := h.n
  go_enter Try.func5, Try.ntmps5
  go_wp2
  · go_ret
    exact SomeB.mk _
  · go_loop [3, 4] (fun t i => ∃ k m : Nat, k ≤ G.n ∧ i = .int .i64 k ∧ t = .int .i64 m ∧ m ≤ 1048576) (fun _ i => G.n - (intOf i).toNat)
    case atStart => exact ⟨0, G.n, Nat.zero_le _, rfl, rfl, by omega⟩
    case round =>
      obtain ⟨k, m, hk, rfl, rfl, hm⟩ := hrel
      by_cases hlt : k < G.n
      · have hix := g_idx h 22 (Or.inl rfl) .i64 k hlt
        have hc := (h.g k hlt).2
        have hl := h.l k hlt
        clear h
        go_wp2
        · go_ret
          exact SomeB.mk _
        · go_ret
          exact SomeB.mk _
        · go_round
          case rel => exact ⟨k + 1, m + G.L k, by omega, by go_num, by go_num, by omega⟩
          case measure => simp [intOf]; omega
      · clear h
        go_wp2
        go_ret
        exact SomeB.mk _

def SizeP (G : Gph) (w : World) (e : Ending) (w' : World) : Prop := ∃ b : Bool, e = .returned (.bool b) ∧ w' = w ∧ (b = true → G.n ≤ 256 ∧ ∀ v, v < G.n → G.L v ≤ 256)
theorem SizeP.no {G : Gph} {w : World} : SizeP G w (.returned (.bool false)) w := ⟨false, rfl, rfl, fun h => by cases h⟩
theorem SizeP.yes {G : Gph} {w : World} (h : G.n ≤ 256 ∧ ∀ v, v < G.n → G.L v ≤ 256) : SizeP G w (.returned (.bool true)) w := ⟨true, rfl, rfl, fun _ => h⟩

set_option maxHeartbeats 400000 in
theorem size_any (G : Gph) (w : World) (h : G.In w) :
    Calls Try.prog 6 #[.slice G.a G.n G.cap] w (SizeP G w) := by
  have hn := h.n
  go_enter Try.func6, Try.ntmps6
  go_wp2
  · go_ret
    exact SizeP.no
  · go_loop [3, 4] (fun t i => ∃ k m : Nat, k ≤ G.n ∧ i = .int .i64 k ∧ t = .int .i64 m ∧ m ≤ 1048576 ∧ ∀ v, v < k → G.L v ≤ 256) (fun _ i => G.n - (intOf i).toNat)
    case atStart => exact ⟨0, 24 * G.n, Nat.zero_le _, rfl, by go_num, by omega, fun v h => absurd h (Nat.not_lt_zero v)⟩
    case round =>
      obtain ⟨k, m, hk, rfl, rfl, hm, hd⟩ := hrel
      have HD : Hid (∀ v, v < k → G.L v ≤ 256) := hd
      clear hd
      by_cases hlt : k < G.n
      · have hix := g_idx h 22 (Or.inl rfl) .i64 k hlt
        have hc := (h.g k hlt).2
        have hl := h.l k hlt
        clear h
        go_wp2
        · go_ret
          exact SizeP.no
        · go_ret
          exact SizeP.no
        · go_round
          case rel => exact ⟨k + 1, m + 4 * G.L k, by omega, by go_num, by go_num, by omega, fun v hv => by
            by_cases e : v = k
            · subst e; omega
            · exact HD.out v (by omega)⟩
          case measure => simp [intOf]; omega
      · clear h
        go_wp2
        go_ret
        exact SizeP.yes ⟨by omega, fun v hv => HD.out v (by omega)⟩
end Go.Proofs.Qxb6602927a
