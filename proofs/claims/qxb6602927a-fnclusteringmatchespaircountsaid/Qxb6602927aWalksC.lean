/-
  THE WALKS, C: (Graph).Clustering.
-/
import Derived.Test.Qxb6602927aWalksB
namespace Go.Proofs.Qxb6602927a
open Go.RowKit

theorem run_fadd {x y : Nat} (hx : NN x) (hy : NN y) (w : World) : (binOp .add 24 (.float .f64 x) (.float .f64 y)).run Try.prog w = .ok (.float .f64 (fadd x y)) w :=
  run_float_arith w .add 24 .f64 x y _ (add_nn hx hy).1
theorem run_fdiv {x y : Nat} (hx : NN x) (hy : FN y) (w : World) : (binOp .quo 24 (.float .f64 x) (.float .f64 y)).run Try.prog w = .ok (.float .f64 (fdiv x y)) w :=
  run_float_arith w .quo 24 .f64 x y _ (div_nn hx hy).1

theorem hid {p : Prop} (h : p) : Hid p := h
def FloatP (w : World) (x : Nat) (e : Ending) (w' : World) : Prop := e = .returned (.float .f64 x) ∧ ∃ q, w' = w.drewN q
theorem FloatP.mk {w : World} {x y : Nat} (h : y = x) : FloatP w x (.returned (.float .f64 y)) w := ⟨by rw [h], 0, rfl⟩

def cl (G : Gph) (v : Nat) : Nat := cRow G.L G.Z v (G.L v)
theorem cOne_le (L : Nat → Nat) (Z : Nat → Nat → Int) (v u j : Nat) : cOne L Z v u j ≤ j := cnt_le _ _
theorem cRow_le {G : Gph} (hs : G.Simple) (hl : ∀ v, v < G.n → G.L v ≤ 256) {v : Nat} (hv : v < G.n) {i : Nat} (hi : i ≤ G.L v) : cRow G.L G.Z v i ≤ i * 256 :=
  sumTo_le fun j hj => by
    have h := hs.range v hv j (by omega)
    exact Nat.le_trans (cOne_le _ _ _ _ _) (hl _ (by omega))
theorem cOne_succ (L : Nat → Nat) (Z : Nat → Nat → Int) (v u j : Nat) : cOne L Z v u (j + 1) = cOne L Z v u j + (hasB (L v) (Z v) (Z u j)).toNat := rfl
theorem cRow_succ (L : Nat → Nat) (Z : Nat → Nat → Int) (v i : Nat) : cRow L Z v (i + 1) = cRow L Z v i + cOne L Z v (Z v i).toNat (L (Z v i).toNat) := rfl
theorem prod_cast {k : Nat} (h : 2 ≤ k) : (k : Int) * ((k : Int) - 1) = ((k * (k - 1) : Nat) : Int) := by
  obtain ⟨m, rfl⟩ : ∃ m, k = m + 1 := ⟨k - 1, by omega⟩
  rw [Int.natCast_mul]
  congr 1
  omega
theorem prod_le {k : Nat} (h : k ≤ 256) : k * (k - 1) ≤ 65536 := Nat.le_trans (Nat.mul_le_mul h (Nat.le_trans (Nat.sub_le _ _) h)) (by decide)

set_option maxHeartbeats 1000000 in
theorem clustering_any (G : Gph) (w : World) (h : G.In w) (hn : G.n ≤ 256) (hl : ∀ v, v < G.n → G.L v ≤ 256) (hs : G.Simple) :
    Calls Try.prog 8 #[.slice G.a G.n G.cap] w (FloatP w (res (cl G) G.L G.n)) := by
  have HL : Hid (∀ v, v < G.n → G.L v ≤ 256) := hl
  have HS : Hid (G.Simple) := hs
  clear hl hs
  by_cases h0 : G.n = 0
  · have h0' : ((G.n : Int) == 0) = true := by rw [beq_iff_eq]; omega
    have H0 : Hid (res (cl G) G.L G.n = 0) := by unfold Hid res; rw [if_pos h0]
    clear h0
    go_enter Try.func8, Try.ntmps8
    go_wp2
    go_ret
    exact FloatP.mk H0.out.symm
  · have h0' : ((G.n : Int) == 0) = false := by rw [beq_eq_false_iff_ne]; omega
    go_enter Try.func8, Try.ntmps8
    go_wp2
    go_loop [3, 17] (fun s v => ∃ k : Nat, k ≤ G.n ∧ v = .int .i64 k ∧ s = .float .f64 (fs (cl G) G.L k)) (fun _ v => G.n - (intOf v).toNat)
    case atStart => exact ⟨0, Nat.zero_le _, rfl, rfl⟩
    case round =>
      obtain ⟨k, hk, rfl, rfl⟩ := hrel
      by_cases hlt : k < G.n
      · have hix := g_idx h 25 (Or.inr rfl) .i64 k hlt
        have hc := (h.g k hlt).2
        have hlk := HL.out k hlt
        by_cases hk2 : G.L k < 2
        · have HF : Hid (fs (cl G) G.L (k + 1) = fs (cl G) G.L k) := by
            show fs (cl G) G.L (k + 1) = fs (cl G) G.L k
            rw [fs, if_pos hk2]
          go_wp2
          go_round
          case rel => exact ⟨k + 1, by omega, by go_num, by rw [HF.out]⟩
          case measure => simp [intOf]; omega
        · have HFn : Hid (fs (cl G) G.L (k + 1) = fadd (fs (cl G) G.L k) (term (cRow G.L G.Z k (G.L k)) (G.L k))) := by
            show fs (cl G) G.L (k + 1) = fadd (fs (cl G) G.L k) (term (cl G k) (G.L k))
            rw [fs, if_neg hk2]
          have hfs : NN (fs (cl G) G.L k) := fs_nn _ _ _ fun v hv => HL.out v (by omega)
          generalize fs (cl G) G.L k = acc at *
          go_wp2
          go_loop [7, 27] (fun s i => ∃ m : Nat, m ≤ G.L k ∧ i = .int .i64 m ∧ s = .int .i64 (cRow G.L G.Z k m)) (fun _ i => G.L k - (intOf i).toNat)
          case atStart => exact ⟨0, Nat.zero_le _, rfl, rfl⟩
          case round =>
            obtain ⟨m, hm, rfl, rfl⟩ := hrel
            have hb1 := cRow_le HS.out HL.out hlt hm
            by_cases hmt : m < G.L k
            · have hix2 := row_idx (h.r k hlt) (G.C k) m hmt
              have hc2 := ((h.r k hlt) m hmt).2
              obtain ⟨g1, g2⟩ := HS.out.range k hlt m hmt
              obtain ⟨u, hu⟩ := Int.eq_ofNat_of_zero_le g1
              have HU : Hid ((G.Z k m).toNat = u) := by unfold Hid; omega
              rw [hu] at hc2 g2
              clear g1 hu
              have hun : u < G.n := by omega
              have hix3 := g_idx h 25 (Or.inr rfl) .i32 u hun
              have hc3 := (h.g u hun).2
              have hlu := HL.out u hun
              go_wp2
              go_loop [7, 36] (fun s i => ∃ j : Nat, j ≤ G.L u ∧ i = .int .i64 j ∧ s = .int .i64 ((cRow G.L G.Z k m + cOne G.L G.Z k u j : Nat) : Int)) (fun _ i => G.L u - (intOf i).toNat)
              case atStart => exact ⟨0, Nat.zero_le _, rfl, rfl⟩
              case round =>
                obtain ⟨j, hj, rfl, rfl⟩ := hrel
                have hb2 := cOne_le G.L G.Z k u j
                by_cases hjt : j < G.L u
                · have hix4 := row_idx (h.r u hun) (G.C u) j hjt
                  have hc4 := ((h.r u hun) j hjt).2
                  have hcon := contains_any (G.S k) (G.L k) (G.C k) (G.B k) (G.O k) (G.Z k) (G.Z u j) w (by omega) (h.r k hlt)
                  have hs1 := cOne_succ G.L G.Z k u j
                  generalize hasB (G.L k) (G.Z k) (G.Z u j) = bb at *
                  have HS1 : Hid (cOne G.L G.Z k u (j + 1) = cOne G.L G.Z k u j + bb.toNat) := hs1
                  have HC := hid hcon
                  clear hs1 hcon
                  cases bb with
                  | true =>
                    go_wp2_with fail
                    refine (HC.out).mono ?_
                    rintro e w' ⟨rfl, hw⟩
                    subst hw
                    go_wp2
                    go_round
                    case rel => exact ⟨j + 1, by omega, by go_num, by rw [HS1.out]; simp; omega⟩
                    case measure => simp [intOf]; omega
                  | false =>
                    go_wp2_with fail
                    refine (HC.out).mono ?_
                    rintro e w' ⟨rfl, hw⟩
                    subst hw
                    go_wp2
                    go_round
                    case rel => exact ⟨j + 1, by omega, by go_num, by rw [HS1.out]; simp⟩
                    case measure => simp [intOf]; omega
                · have hje : j = G.L u := by omega
                  have HE : Hid (cRow G.L G.Z k (m + 1) = cRow G.L G.Z k m + cOne G.L G.Z k u j) := by
                    show cRow G.L G.Z k (m + 1) = _
                    rw [cRow_succ, HU.out, hje]
                  clear hje
                  go_wp2
                  go_round
                  case rel => exact ⟨m + 1, by omega, by go_num, by rw [HE.out]⟩
                  case measure => simp [intOf]; omega
            · have hme : m = G.L k := by omega
              subst hme
              have hpc := prod_cast (k := G.L k) (by omega)
              have hpl := prod_le hlk
              have hfp := fn_pairs (k := G.L k) (by omega) hlk
              have hq := run_fdiv (ofInt_nn (cRow G.L G.Z k (G.L k))) hfp
              have ha := run_fadd hfs (term_nn (cRow G.L G.Z k (G.L k)) (k := G.L k) (by omega) hlk)
              unfold term at ha
              unfold term at HFn
              rw [← hpc] at hq ha HFn
              have hp0 : 0 ≤ (G.L k : Int) * ((G.L k : Int) - 1) := by rw [hpc]; omega
              have hp1 : (G.L k : Int) * ((G.L k : Int) - 1) ≤ 65536 := by rw [hpc]; omega
              clear hpc hpl hfp hfs
              go_wp2
              go_round
              case rel => exact ⟨k + 1, by omega, by go_num, by rw [HFn.out]⟩
              case measure => simp [intOf]; omega
      · have hfs : NN (fs (cl G) G.L k) := fs_nn _ _ _ fun v hv => HL.out v (by omega)
        have hkn : k = G.n := by omega
        subst hkn
        have HR : Hid (res (cl G) G.L G.n = fdiv (fs (cl G) G.L G.n) (floatOfInt .f64 (G.n : Int))) := by unfold Hid res; rw [if_neg h0]
        have hq := run_fdiv hfs (fn_len h0 hn)
        go_wp2
        go_ret
        exact FloatP.mk HR.out.symm
end Go.Proofs.Qxb6602927a
