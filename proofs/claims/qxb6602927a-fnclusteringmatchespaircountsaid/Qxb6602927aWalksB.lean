/-
  THE WALKS, B: zzMetricsB1Simple: where it answers true, every row lists vertices in range, none twice, never its own.
-/
import Derived.Test.Qxb6602927aWalksA
import Derived.Deep.OwnRows
namespace Go.Proofs.Qxb6602927a
open Go.RowKit

def marks (f : Nat → Bool) (n : Nat) : Array Value := ((List.range n).map fun i => Value.bool (f i)).toArray
theorem marks_get (f : Nat → Bool) (n i : Nat) (h : i < n) : (marks f n)[i]? = some (.bool (f i)) := by
  simp [marks, h]
theorem marks_set (f : Nat → Bool) (n i : Nat) (b : Bool) : (marks f n).setIfInBounds i (.bool b) = marks (fun j => if j = i then b else f j) n := by
  unfold marks
  rw [List.setIfInBounds_toArray]
  congr 1
  apply List.ext_getElem?
  intro j
  rw [List.getElem?_set]
  by_cases hj : j < n
  · by_cases e : i = j
    · subst e; simp [hj]
    · have e' : ¬ j = i := fun h => e h.symm
      simp [hj, e, e']
  · by_cases e : i = j
    · subst e; simp [hj]
    · simp [hj, e]
theorem marks_made (n : Nat) : madeCells #[.bool false] n = marks (fun _ => false) n := by
  unfold madeCells marks
  apply Array.ext'
  simp [Array.toList_range]
  intro a _
  simp [Nat.mod_one]

theorem info4 : (Try.prog.info? 4).map (fun i => (i.zero, i.size, i.bytes)) = some (some (.bool false), 1, 1) := by kernel_rfl

/-- The rows' own law: in range, never itself, none twice. -/
structure Gph.Simple (G : Gph) : Prop where
  range : ∀ v, v < G.n → ∀ i, i < G.L v → 0 ≤ G.Z v i ∧ G.Z v i < G.n
  self : ∀ v, v < G.n → ∀ i, i < G.L v → G.Z v i ≠ v
  once : ∀ v, v < G.n → ∀ i j, i < j → j < G.L v → G.Z v i ≠ G.Z v j

/-- .. of the first k rows; of row v's first i entries. -/
structure Gph.RowTo (G : Gph) (v i : Nat) : Prop where
  range : ∀ j, j < i → 0 ≤ G.Z v j ∧ G.Z v j < G.n
  self : ∀ j, j < i → G.Z v j ≠ v
  once : ∀ j k, j < k → k < i → G.Z v j ≠ G.Z v k

theorem RowTo.zero (G : Gph) (v : Nat) : G.RowTo v 0 := ⟨fun j h => by omega, fun j h => by omega, fun j k _ h => by omega⟩
theorem RowTo.next {G : Gph} {v i : Nat} {f : Nat → Bool} (h : G.RowTo v i) (hf : ∀ j, j < i → f (G.Z v j).toNat = true) (h0 : 0 ≤ G.Z v i) (h1 : G.Z v i < G.n) (h2 : G.Z v i ≠ v)
    (h3 : f (G.Z v i).toNat = false) : G.RowTo v (i + 1) := by
  refine ⟨fun j hj => ?_, fun j hj => ?_, fun j k hj hk => ?_⟩
  · by_cases e : j = i
    · subst e; exact ⟨h0, h1⟩
    · exact h.range j (by omega)
  · by_cases e : j = i
    · subst e; exact h2
    · exact h.self j (by omega)
  · by_cases e : k = i
    · subst e
      intro he
      have := hf j hj
      rw [he, h3] at this
      cases this
    · exact h.once j k hj (by omega)
theorem Simple.of {G : Gph} (h : ∀ v, v < G.n → G.RowTo v (G.L v)) : G.Simple :=
  ⟨fun v hv => (h v hv).range, fun v hv => (h v hv).self, fun v hv i j hij hj => (h v hv).once i j hij hj⟩

def SimpleP (G : Gph) (w : World) (e : Ending) (w' : World) : Prop := ∃ b : Bool, e = .returned (.bool b) ∧ Below w.heap.size w w' ∧ (b = true → G.Simple)
theorem SimpleP.no {G : Gph} {w w' : World} (h : Below w.heap.size w w') : SimpleP G w (.returned (.bool false)) w' := ⟨false, rfl, h, fun h => by cases h⟩
theorem SimpleP.yes {G : Gph} {w w' : World} (h : Below w.heap.size w w') (hs : G.Simple) : SimpleP G w (.returned (.bool true)) w' := ⟨true, rfl, h, fun _ => hs⟩

set_option maxHeartbeats 1000000 in
theorem simple_any (G : Gph) (w : World) (h : G.In w) (hn : G.n ≤ 256) (hl : ∀ v, v < G.n → G.L v ≤ 256) :
    Calls Try.prog 7 #[.slice G.a G.n G.cap] w (SimpleP G w) := by
  have hmk := run_make_row' (P := Try.prog) 29 4 (.bool false) 1 Try.underlying29 info4 rfl .i64 .i64 G.n (by omega) (by omega)
  have hbel : Hid (∀ C : Array Value, Below w.heap.size w (w.alloc (.cells C 4))) := fun C => (Below.refl _ _).alloc (Nat.le_refl _) _
  have HL : Hid (∀ v, v < G.n → G.L v ≤ 256) := hl
  clear hl
  go_enter Try.func7, Try.ntmps7
  go_wp2
  clear hmk
  go_loopw [5] (fun v wr => ∃ (k : Nat) (f : Nat → Bool), k ≤ G.n ∧ v = .int .i64 k ∧ wr = w.alloc (.cells (marks f G.n) 4) ∧ (∀ r, r < k → G.RowTo r (G.L r))) (fun v _ => G.n - (intOf v).toNat)
  case atStart => exact ⟨0, fun _ => false, Nat.zero_le _, rfl, by rw [marks_made], fun r h => absurd h (Nat.not_lt_zero r)⟩
  case round =>
    obtain ⟨k, f, hk, rfl, rfl, hd⟩ := hrel
    have HD : Hid (∀ r, r < k → G.RowTo r (G.L r)) := hd
    clear hd
    by_cases hlt : k < G.n
    · have hix := g_idx h 22 (Or.inl rfl) .i64 k hlt
      have hc := (h.g k hlt).2
      have hbl := h.gblk k hlt
      have hlk := HL.out k hlt
      go_wp2
      go_loopw [7] (fun i wr => ∃ (m : Nat) (f : Nat → Bool), m ≤ G.L k ∧ i = .int .i64 m ∧ wr = w.alloc (.cells (marks f G.n) 4) ∧ G.RowTo k m ∧ (∀ j, j < m → f (G.Z k j).toNat = true)) (fun i _ => G.L k - (intOf i).toNat)
      case atStart => exact ⟨0, f, Nat.zero_le _, rfl, rfl, RowTo.zero _ _, fun j h => absurd h (Nat.not_lt_zero j)⟩
      case round =>
        obtain ⟨m, f, hm, rfl, rfl, hR, hF⟩ := hrel
        have HR : Hid (G.RowTo k m) := hR
        have HF : Hid (∀ j, j < m → f (G.Z k j).toNat = true) := hF
        clear hR hF
        by_cases hmt : m < G.L k
        · have hix2 := row_idx (h.r k hlt) (G.C k) m hmt
          have hc2 := ((h.r k hlt) m hmt).2
          have hbl2 := h.rblk k hlt m hmt
          have hwf := h.wf k hlt m hmt
          obtain ⟨z, hz⟩ : ∃ z, G.Z k m = z := ⟨_, rfl⟩
          have HZ : Hid (G.Z k m = z) := hz
          rw [hz] at hc2 hwf
          clear hz
          obtain ⟨hwf1, hwf2⟩ := hwf
          by_cases hz0 : z < 0
          · go_wp2
            go_ret
            exact SimpleP.no (hbel.out _)
          · obtain ⟨u, rfl⟩ := Int.eq_ofNat_of_zero_le (show 0 ≤ z by omega)
            by_cases hz1 : G.n ≤ u
            · go_wp2
              go_ret
              exact SimpleP.no (hbel.out _)
            · have hu : u < G.n := by omega
              have hmg := marks_get f G.n u hu
              by_cases hz2 : u = k
              · have hz2' : ((u : Int) == k) = true := by rw [beq_iff_eq]; omega
                have hz2H : Hid (u = k) := hz2
                clear hz2
                go_wp2
                go_ret
                exact SimpleP.no (hbel.out _)
              · have hz2' : ((u : Int) == k) = false := by rw [beq_eq_false_iff_ne]; omega
                cases hfu : f u with
                | true =>
                  rw [hfu] at hmg
                  clear hfu
                  go_wp2
                  go_ret
                  exact SimpleP.no (hbel.out _)
                | false =>
                  rw [hfu] at hmg
                  have HFU : Hid (f u = false) := hfu
                  clear hfu
                  go_wp2
                  go_roundw
                  case rel =>
                    refine ⟨m + 1, fun j => if j = u then true else f j, by omega, by go_num, by rw [marks_set], ?_, ?_⟩
                    · refine RowTo.next HR.out HF.out ?_ ?_ ?_ ?_
                      · rw [HZ.out]; omega
                      · rw [HZ.out]; omega
                      · rw [HZ.out]; omega
                      · rw [HZ.out]; exact HFU.out
                    · intro j hj
                      by_cases e : j = m
                      · subst e; rw [HZ.out]; simp
                      · have := HF.out j (by omega)
                        simp [this]
                  case measure => simp [intOf]; omega
        · have hml : m = G.L k := by omega
          subst hml
          go_wp2
          go_loopw [9] (fun i wr => ∃ (m : Nat) (f : Nat → Bool), m ≤ G.L k ∧ i = .int .i64 m ∧ wr = w.alloc (.cells (marks f G.n) 4)) (fun i _ => G.L k - (intOf i).toNat)
          case atStart => exact ⟨0, f, Nat.zero_le _, rfl, rfl⟩
          case round =>
            obtain ⟨q, f, hq, rfl, rfl⟩ := hrel
            by_cases hqt : q < G.L k
            · have hix2 := row_idx (h.r k hlt) (G.C k) q hqt
              have hc2 := ((h.r k hlt) q hqt).2
              have hbl2 := h.rblk k hlt q hqt
              obtain ⟨h1, h2⟩ := HR.out.range q hqt
              obtain ⟨u, hu⟩ := Int.eq_ofNat_of_zero_le h1
              rw [hu] at hc2 h2
              clear h1 hu
              have hmg := marks_get f G.n u (by omega)
              go_wp2
              go_roundw
              case rel => exact ⟨q + 1, _, by omega, by go_num, by rw [marks_set]⟩
              case measure => simp [intOf]; omega
            · go_wp2
              go_roundw
              case rel => exact ⟨k + 1, f, by omega, by go_num, rfl, fun r hr => by
                by_cases e : r = k
                · subst e; exact HR.out
                · exact HD.out r (by omega)⟩
              case measure => simp [intOf]; omega
    · go_wp2
      go_ret
      exact SimpleP.yes (hbel.out _) (Simple.of fun r hr => HD.out r (by omega))
end Go.Proofs.Qxb6602927a
