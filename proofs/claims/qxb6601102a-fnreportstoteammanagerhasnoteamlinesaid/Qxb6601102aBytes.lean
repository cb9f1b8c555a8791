/-
  THE WALKS, B: the three byte guards: some bool comes back, the world is as it was.
-/
import Derived.Test.Qxb6601102aGuards
namespace Go.Proofs.Qxb6601102a
open Go.RowKit

def SomeB (w : World) (e : Ending) (w' : World) : Prop := ∃ b : Bool, e = .returned (.bool b) ∧ w' = w
theorem SomeB.mk {w : World} (b : Bool) : SomeB w (.returned (.bool b)) w := ⟨b, rfl, rfl⟩

set_option maxRecDepth 100000 in
set_option maxHeartbeats 1000000 in
theorem bytes8_any (x0 : Sl) (S0 : Nat → ByteArray) (x1 : Sl) (x2 : Sl) (S2 : Nat → ByteArray) (x3 : Sl) (S3 : Nat → ByteArray) (x4 : Sl) (S4 : Nat → ByteArray) (x5 : Sl) (x6 : Sl) (R6 : Nat → Sl) (Z6 : Nat → Nat → Int) (w : World) (h0 : Strs w x0 S0) (h1 : x1.n ≤ 9223372036854775807) (h2 : Strs w x2 S2) (h3 : Strs w x3 S3) (h4 : Strs w x4 S4) (h5 : x5.n ≤ 9223372036854775807) (h6 : Intss w x6 R6 Z6) :
    Calls Try.prog 8 #[.slice x0.s x0.n x0.c, .slice x1.s x1.n x1.c, .slice x2.s x2.n x2.c, .slice x3.s x3.n x3.c, .slice x4.s x4.n x4.c, .slice x5.s x5.n x5.c, .slice x6.s x6.n x6.c] w (SomeB w) := by
  have l0 := h0.has.len
  have H0 := hid h0
  clear h0
  have l2 := h2.has.len
  have H2 := hid h2
  clear h2
  have l3 := h3.has.len
  have H3 := hid h3
  clear h3
  have l4 := h4.has.len
  have H4 := hid h4
  clear h4
  have l6 := h6.has.len
  have H6 := hid h6
  clear h6
  go_enter Try.func8, Try.ntmps8
  go_wp2
  all_goals first | (go_ret; exact SomeB.mk _) | skip
  go_loop [15, 16] (fun t i => ∃ k m : Nat, k ≤ x0.n ∧ i = .int .i64 k ∧ t = .int .i64 m ∧ m ≤ 1048576) (fun _ i => x0.n - (intOf i).toNat)
  case atStart => exact ⟨0, x0.n, Nat.zero_le _, rfl, by go_num, by omega⟩
  obtain ⟨k, m0, hk, rfl, rfl, hm0⟩ := hrel
  by_cases hlt : k < x0.n
  · have hix := idx22 H0.out.has k hlt
    have hc := H0.out.has.cell hlt
    have hsz : (S0 k).size ≤ 9223372036854775807 := H0.out.size k hlt
    go_wp2
    · go_ret
      exact SomeB.mk _
    · go_ret
      exact SomeB.mk _
    · go_round
      case rel => exact ⟨k + 1, m0 + (S0 k).size, by omega, by go_num, by go_num, by omega⟩
      case measure => simp [intOf]; omega
  · go_wp2
    all_goals first | (go_ret; exact SomeB.mk _) | skip
    go_loop [15, 17] (fun t i => ∃ k m : Nat, k ≤ x2.n ∧ i = .int .i64 k ∧ t = .int .i64 m ∧ m ≤ 1048576) (fun _ i => x2.n - (intOf i).toNat)
    case atStart => exact ⟨0, m0 + x1.n + x2.n, Nat.zero_le _, rfl, by go_num, by omega⟩
    obtain ⟨k, m2, hk, rfl, rfl, hm2⟩ := hrel
    by_cases hlt : k < x2.n
    · have hix := idx22 H2.out.has k hlt
      have hc := H2.out.has.cell hlt
      have hsz : (S2 k).size ≤ 9223372036854775807 := H2.out.size k hlt
      go_wp2
      · go_ret
        exact SomeB.mk _
      · go_ret
        exact SomeB.mk _
      · go_round
        case rel => exact ⟨k + 1, m2 + (S2 k).size, by omega, by go_num, by go_num, by omega⟩
        case measure => simp [intOf]; omega
    · go_wp2
      all_goals first | (go_ret; exact SomeB.mk _) | skip
      go_loop [15, 18] (fun t i => ∃ k m : Nat, k ≤ x3.n ∧ i = .int .i64 k ∧ t = .int .i64 m ∧ m ≤ 1048576) (fun _ i => x3.n - (intOf i).toNat)
      case atStart => exact ⟨0, m2 + x3.n, Nat.zero_le _, rfl, by go_num, by omega⟩
      obtain ⟨k, m3, hk, rfl, rfl, hm3⟩ := hrel
      by_cases hlt : k < x3.n
      · have hix := idx22 H3.out.has k hlt
        have hc := H3.out.has.cell hlt
        have hsz : (S3 k).size ≤ 9223372036854775807 := H3.out.size k hlt
        go_wp2
        · go_ret
          exact SomeB.mk _
        · go_ret
          exact SomeB.mk _
        · go_round
          case rel => exact ⟨k + 1, m3 + (S3 k).size, by omega, by go_num, by go_num, by omega⟩
          case measure => simp [intOf]; omega
      · go_wp2
        all_goals first | (go_ret; exact SomeB.mk _) | skip
        go_loop [15, 19] (fun t i => ∃ k m : Nat, k ≤ x4.n ∧ i = .int .i64 k ∧ t = .int .i64 m ∧ m ≤ 1048576) (fun _ i => x4.n - (intOf i).toNat)
        case atStart => exact ⟨0, m3 + x4.n, Nat.zero_le _, rfl, by go_num, by omega⟩
        obtain ⟨k, m4, hk, rfl, rfl, hm4⟩ := hrel
        by_cases hlt : k < x4.n
        · have hix := idx22 H4.out.has k hlt
          have hc := H4.out.has.cell hlt
          have hsz : (S4 k).size ≤ 9223372036854775807 := H4.out.size k hlt
          go_wp2
          · go_ret
            exact SomeB.mk _
          · go_ret
            exact SomeB.mk _
          · go_round
            case rel => exact ⟨k + 1, m4 + (S4 k).size, by omega, by go_num, by go_num, by omega⟩
            case measure => simp [intOf]; omega
        · go_wp2
          all_goals first | (go_ret; exact SomeB.mk _) | skip
          go_loop [15, 20] (fun t i => ∃ k m : Nat, k ≤ x6.n ∧ i = .int .i64 k ∧ t = .int .i64 m ∧ m ≤ 1048576) (fun _ i => x6.n - (intOf i).toNat)
          case atStart => exact ⟨0, m4 + x5.n + x6.n, Nat.zero_le _, rfl, by go_num, by omega⟩
          obtain ⟨k, m6, hk, rfl, rfl, hm6⟩ := hrel
          by_cases hlt : k < x6.n
          · have hix := idx25 H6.out.has k hlt
            have hc := H6.out.has.cell hlt
            have hsz : (R6 k).n ≤ 9223372036854775807 := (H6.out.rows k hlt).has.len
            go_wp2
            · go_ret
              exact SomeB.mk _
            · go_ret
              exact SomeB.mk _
            · go_round
              case rel => exact ⟨k + 1, m6 + (R6 k).n, by omega, by go_num, by go_num, by omega⟩
              case measure => simp [intOf]; omega
          · go_wp2
            all_goals (go_ret; exact SomeB.mk _)

set_option maxRecDepth 100000 in
set_option maxHeartbeats 1000000 in
theorem bytes20_any (x0 : Sl) (S0 : Nat → ByteArray) (x1 : Sl) (x2 : Sl) (S2 : Nat → ByteArray) (x3 : Sl) (S3 : Nat → ByteArray) (x4 : Sl) (S4 : Nat → ByteArray) (x5 : Sl) (x6 : Sl) (R6 : Nat → Sl) (Z6 : Nat → Nat → Int) (w : World) (h0 : Strs w x0 S0) (h1 : x1.n ≤ 9223372036854775807) (h2 : Strs w x2 S2) (h3 : Strs w x3 S3) (h4 : Strs w x4 S4) (h5 : x5.n ≤ 9223372036854775807) (h6 : Intss w x6 R6 Z6) :
    Calls Try.prog 20 #[.slice x0.s x0.n x0.c, .slice x1.s x1.n x1.c, .slice x2.s x2.n x2.c, .slice x3.s x3.n x3.c, .slice x4.s x4.n x4.c, .slice x5.s x5.n x5.c, .slice x6.s x6.n x6.c] w (SomeB w) := by
  have l0 := h0.has.len
  have H0 := hid h0
  clear h0
  have l2 := h2.has.len
  have H2 := hid h2
  clear h2
  have l3 := h3.has.len
  have H3 := hid h3
  clear h3
  have l4 := h4.has.len
  have H4 := hid h4
  clear h4
  have l6 := h6.has.len
  have H6 := hid h6
  clear h6
  go_enter Try.func20, Try.ntmps20
  go_wp2
  all_goals first | (go_ret; exact SomeB.mk _) | skip
  go_loop [15, 16] (fun t i => ∃ k m : Nat, k ≤ x0.n ∧ i = .int .i64 k ∧ t = .int .i64 m ∧ m ≤ 1048576) (fun _ i => x0.n - (intOf i).toNat)
  case atStart => exact ⟨0, x0.n, Nat.zero_le _, rfl, by go_num, by omega⟩
  obtain ⟨k, m0, hk, rfl, rfl, hm0⟩ := hrel
  by_cases hlt : k < x0.n
  · have hix := idx22 H0.out.has k hlt
    have hc := H0.out.has.cell hlt
    have hsz : (S0 k).size ≤ 9223372036854775807 := H0.out.size k hlt
    go_wp2
    · go_ret
      exact SomeB.mk _
    · go_ret
      exact SomeB.mk _
    · go_round
      case rel => exact ⟨k + 1, m0 + (S0 k).size, by omega, by go_num, by go_num, by omega⟩
      case measure => simp [intOf]; omega
  · go_wp2
    all_goals first | (go_ret; exact SomeB.mk _) | skip
    go_loop [15, 17] (fun t i => ∃ k m : Nat, k ≤ x2.n ∧ i = .int .i64 k ∧ t = .int .i64 m ∧ m ≤ 1048576) (fun _ i => x2.n - (intOf i).toNat)
    case atStart => exact ⟨0, m0 + x1.n + x2.n, Nat.zero_le _, rfl, by go_num, by omega⟩
    obtain ⟨k, m2, hk, rfl, rfl, hm2⟩ := hrel
    by_cases hlt : k < x2.n
    · have hix := idx22 H2.out.has k hlt
      have hc := H2.out.has.cell hlt
      have hsz : (S2 k).size ≤ 9223372036854775807 := H2.out.size k hlt
      go_wp2
      · go_ret
        exact SomeB.mk _
      · go_ret
        exact SomeB.mk _
      · go_round
        case rel => exact ⟨k + 1, m2 + (S2 k).size, by omega, by go_num, by go_num, by omega⟩
        case measure => simp [intOf]; omega
    · go_wp2
      all_goals first | (go_ret; exact SomeB.mk _) | skip
      go_loop [15, 18] (fun t i => ∃ k m : Nat, k ≤ x3.n ∧ i = .int .i64 k ∧ t = .int .i64 m ∧ m ≤ 1048576) (fun _ i => x3.n - (intOf i).toNat)
      case atStart => exact ⟨0, m2 + x3.n, Nat.zero_le _, rfl, by go_num, by omega⟩
      obtain ⟨k, m3, hk, rfl, rfl, hm3⟩ := hrel
      by_cases hlt : k < x3.n
      · have hix := idx22 H3.out.has k hlt
        have hc := H3.out.has.cell hlt
        have hsz : (S3 k).size ≤ 9223372036854775807 := H3.out.size k hlt
        go_wp2
        · go_ret
          exact SomeB.mk _
        · go_ret
          exact SomeB.mk _
        · go_round
          case rel => exact ⟨k + 1, m3 + (S3 k).size, by omega, by go_num, by go_num, by omega⟩
          case measure => simp [intOf]; omega
      · go_wp2
        all_goals first | (go_ret; exact SomeB.mk _) | skip
        go_loop [15, 19] (fun t i => ∃ k m : Nat, k ≤ x4.n ∧ i = .int .i64 k ∧ t = .int .i64 m ∧ m ≤ 1048576) (fun _ i => x4.n - (intOf i).toNat)
        case atStart => exact ⟨0, m3 + x4.n, Nat.zero_le _, rfl, by go_num, by omega⟩
        obtain ⟨k, m4, hk, rfl, rfl, hm4⟩ := hrel
        by_cases hlt : k < x4.n
        · have hix := idx22 H4.out.has k hlt
          have hc := H4.out.has.cell hlt
          have hsz : (S4 k).size ≤ 9223372036854775807 := H4.out.size k hlt
          go_wp2
          · go_ret
            exact SomeB.mk _
          · go_ret
            exact SomeB.mk _
          · go_round
            case rel => exact ⟨k + 1, m4 + (S4 k).size, by omega, by go_num, by go_num, by omega⟩
            case measure => simp [intOf]; omega
        · go_wp2
          all_goals first | (go_ret; exact SomeB.mk _) | skip
          go_loop [15, 20] (fun t i => ∃ k m : Nat, k ≤ x6.n ∧ i = .int .i64 k ∧ t = .int .i64 m ∧ m ≤ 1048576) (fun _ i => x6.n - (intOf i).toNat)
          case atStart => exact ⟨0, m4 + x5.n + x6.n, Nat.zero_le _, rfl, by go_num, by omega⟩
          obtain ⟨k, m6, hk, rfl, rfl, hm6⟩ := hrel
          by_cases hlt : k < x6.n
          · have hix := idx25 H6.out.has k hlt
            have hc := H6.out.has.cell hlt
            have hsz : (R6 k).n ≤ 9223372036854775807 := (H6.out.rows k hlt).has.len
            go_wp2
            · go_ret
              exact SomeB.mk _
            · go_ret
              exact SomeB.mk _
            · go_round
              case rel => exact ⟨k + 1, m6 + (R6 k).n, by omega, by go_num, by go_num, by omega⟩
              case measure => simp [intOf]; omega
          · go_wp2
            all_goals (go_ret; exact SomeB.mk _)

set_option maxRecDepth 100000 in
set_option maxHeartbeats 1000000 in
theorem bytes24_any (x0 : Sl) (S0 : Nat → ByteArray) (x1 : Sl) (x2 : Sl) (x3 : Sl) (S3 : Nat → ByteArray) (x4 : Sl) (S4 : Nat → ByteArray) (x5 : Sl) (S5 : Nat → ByteArray) (x6 : Sl) (x7 : Sl) (R7 : Nat → Sl) (Z7 : Nat → Nat → Int) (a8 : Int) (w : World) (h0 : Strs w x0 S0) (h1 : x1.n ≤ 9223372036854775807) (h2 : x2.n ≤ 9223372036854775807) (h3 : Strs w x3 S3) (h4 : Strs w x4 S4) (h5 : Strs w x5 S5) (h6 : x6.n ≤ 9223372036854775807) (h7 : Intss w x7 R7 Z7) :
    Calls Try.prog 24 #[.slice x0.s x0.n x0.c, .slice x1.s x1.n x1.c, .slice x2.s x2.n x2.c, .slice x3.s x3.n x3.c, .slice x4.s x4.n x4.c, .slice x5.s x5.n x5.c, .slice x6.s x6.n x6.c, .slice x7.s x7.n x7.c, .int .i64 a8] w (SomeB w) := by
  have l0 := h0.has.len
  have H0 := hid h0
  clear h0
  have l3 := h3.has.len
  have H3 := hid h3
  clear h3
  have l4 := h4.has.len
  have H4 := hid h4
  clear h4
  have l5 := h5.has.len
  have H5 := hid h5
  clear h5
  have l7 := h7.has.len
  have H7 := hid h7
  clear h7
  go_enter Try.func24, Try.ntmps24
  go_wp2
  all_goals first | (go_ret; exact SomeB.mk _) | skip
  go_loop [19, 20] (fun t i => ∃ k m : Nat, k ≤ x0.n ∧ i = .int .i64 k ∧ t = .int .i64 m ∧ m ≤ 1048576) (fun _ i => x0.n - (intOf i).toNat)
  case atStart => exact ⟨0, x0.n, Nat.zero_le _, rfl, by go_num, by omega⟩
  obtain ⟨k, m0, hk, rfl, rfl, hm0⟩ := hrel
  by_cases hlt : k < x0.n
  · have hix := idx22 H0.out.has k hlt
    have hc := H0.out.has.cell hlt
    have hsz : (S0 k).size ≤ 9223372036854775807 := H0.out.size k hlt
    go_wp2
    · go_ret
      exact SomeB.mk _
    · go_ret
      exact SomeB.mk _
    · go_round
      case rel => exact ⟨k + 1, m0 + (S0 k).size, by omega, by go_num, by go_num, by omega⟩
      case measure => simp [intOf]; omega
  · go_wp2
    all_goals first | (go_ret; exact SomeB.mk _) | skip
    go_loop [19, 21] (fun t i => ∃ k m : Nat, k ≤ x3.n ∧ i = .int .i64 k ∧ t = .int .i64 m ∧ m ≤ 1048576) (fun _ i => x3.n - (intOf i).toNat)
    case atStart => exact ⟨0, m0 + x1.n + x2.n + x3.n, Nat.zero_le _, rfl, by go_num, by omega⟩
    obtain ⟨k, m3, hk, rfl, rfl, hm3⟩ := hrel
    by_cases hlt : k < x3.n
    · have hix := idx22 H3.out.has k hlt
      have hc := H3.out.has.cell hlt
      have hsz : (S3 k).size ≤ 9223372036854775807 := H3.out.size k hlt
      go_wp2
      · go_ret
        exact SomeB.mk _
      · go_ret
        exact SomeB.mk _
      · go_round
        case rel => exact ⟨k + 1, m3 + (S3 k).size, by omega, by go_num, by go_num, by omega⟩
        case measure => simp [intOf]; omega
    · go_wp2
      all_goals first | (go_ret; exact SomeB.mk _) | skip
      go_loop [19, 22] (fun t i => ∃ k m : Nat, k ≤ x4.n ∧ i = .int .i64 k ∧ t = .int .i64 m ∧ m ≤ 1048576) (fun _ i => x4.n - (intOf i).toNat)
      case atStart => exact ⟨0, m3 + x4.n, Nat.zero_le _, rfl, by go_num, by omega⟩
      obtain ⟨k, m4, hk, rfl, rfl, hm4⟩ := hrel
      by_cases hlt : k < x4.n
      · have hix := idx22 H4.out.has k hlt
        have hc := H4.out.has.cell hlt
        have hsz : (S4 k).size ≤ 9223372036854775807 := H4.out.size k hlt
        go_wp2
        · go_ret
          exact SomeB.mk _
        · go_ret
          exact SomeB.mk _
        · go_round
          case rel => exact ⟨k + 1, m4 + (S4 k).size, by omega, by go_num, by go_num, by omega⟩
          case measure => simp [intOf]; omega
      · go_wp2
        all_goals first | (go_ret; exact SomeB.mk _) | skip
        go_loop [19, 23] (fun t i => ∃ k m : Nat, k ≤ x5.n ∧ i = .int .i64 k ∧ t = .int .i64 m ∧ m ≤ 1048576) (fun _ i => x5.n - (intOf i).toNat)
        case atStart => exact ⟨0, m4 + x5.n, Nat.zero_le _, rfl, by go_num, by omega⟩
        obtain ⟨k, m5, hk, rfl, rfl, hm5⟩ := hrel
        by_cases hlt : k < x5.n
        · have hix := idx22 H5.out.has k hlt
          have hc := H5.out.has.cell hlt
          have hsz : (S5 k).size ≤ 9223372036854775807 := H5.out.size k hlt
          go_wp2
          · go_ret
            exact SomeB.mk _
          · go_ret
            exact SomeB.mk _
          · go_round
            case rel => exact ⟨k + 1, m5 + (S5 k).size, by omega, by go_num, by go_num, by omega⟩
            case measure => simp [intOf]; omega
        · go_wp2
          all_goals first | (go_ret; exact SomeB.mk _) | skip
          go_loop [19, 24] (fun t i => ∃ k m : Nat, k ≤ x7.n ∧ i = .int .i64 k ∧ t = .int .i64 m ∧ m ≤ 1048576) (fun _ i => x7.n - (intOf i).toNat)
          case atStart => exact ⟨0, m5 + x6.n + x7.n, Nat.zero_le _, rfl, by go_num, by omega⟩
          obtain ⟨k, m7, hk, rfl, rfl, hm7⟩ := hrel
          by_cases hlt : k < x7.n
          · have hix := idx25 H7.out.has k hlt
            have hc := H7.out.has.cell hlt
            have hsz : (R7 k).n ≤ 9223372036854775807 := (H7.out.rows k hlt).has.len
            go_wp2
            · go_ret
              exact SomeB.mk _
            · go_ret
              exact SomeB.mk _
            · go_round
              case rel => exact ⟨k + 1, m7 + (R7 k).n, by omega, by go_num, by go_num, by omega⟩
              case measure => simp [intOf]; omega
          · go_wp2
            all_goals (go_ret; exact SomeB.mk _)

end Go.Proofs.Qxb6601102a
