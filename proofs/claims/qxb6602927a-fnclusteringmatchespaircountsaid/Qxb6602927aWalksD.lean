/-
  THE WALKS, D: zzMetricsB1Model.
-/
import Derived.Test.Qxb6602927aWalksC
import Derived.Deep.QuietTactic
import Derived.BigQuiet
namespace Go.Proofs.Qxb6602927a
open Go.RowKit

theorem In.drewN {G : Gph} {w : World} (h : G.In w) (q : Nat) : G.In (w.drewN q) := ⟨h.g, h.r, h.n, h.l, h.gblk, h.rblk, h.wf⟩

def ml (G : Gph) (v : Nat) : Nat := mRow G.L G.Z v (G.L v)
theorem mOne_le (L : Nat → Nat) (Z : Nat → Nat → Int) (v i j : Nat) : mOne L Z v i j ≤ j := cnt_le _ _
theorem mRow_le {G : Gph} (hl : ∀ v, v < G.n → G.L v ≤ 256) {v : Nat} (hv : v < G.n) {i : Nat} : mRow G.L G.Z v i ≤ i * 256 :=
  sumTo_le fun _ _ => Nat.le_trans (mOne_le _ _ _ _ _) (hl v hv)
theorem mOne_succ (L : Nat → Nat) (Z : Nat → Nat → Int) (v i j : Nat) : mOne L Z v i (j + 1) = mOne L Z v i j + (!(i == j) && hasB (L (Z v i).toNat) (Z (Z v i).toNat) (Z v j)).toNat := rfl
theorem mRow_succ (L : Nat → Nat) (Z : Nat → Nat → Int) (v i : Nat) : mRow L Z v (i + 1) = mRow L Z v i + mOne L Z v i (L v) := rfl
theorem FloatP.mkq {w : World} {x y q : Nat} (h : y = x) : FloatP w x (.returned (.float .f64 y)) (w.drewN q) := ⟨by rw [h], q, rfl⟩

set_option maxHeartbeats 1000000 in
theorem model_any (G : Gph) (w : World) (h : G.In w) (hn : G.n ≤ 256) (hl : ∀ v, v < G.n → G.L v ≤ 256) (hs : G.Simple) :
    Calls Try.prog 9 #[.slice G.a G.n G.cap] w (FloatP w (res (ml G) G.L G.n)) := by
  have HL : Hid (∀ v, v < G.n → G.L v ≤ 256) := hl
  have HS : Hid (G.Simple) := hs
  clear hl hs
  by_cases h0 : G.n = 0
  · have h0' : ((G.n : Int) == 0) = true := by rw [beq_iff_eq]; omega
    have H0 : Hid (res (ml G) G.L G.n = 0) := by unfold Hid res; rw [if_pos h0]
    clear h0
    go_enter Try.func9, Try.ntmps9
    go_wp2
    go_ret
    exact FloatP.mk H0.out.symm
  · have h0' : ((G.n : Int) == 0) = false := by rw [beq_eq_false_iff_ne]; omega
    go_enter Try.func9, Try.ntmps9
    go_wp2
    go_loopw [4, 5] (fun s v wr => ∃ k q : Nat, k ≤ G.n ∧ v = .int .i64 k ∧ s = .float .f64 (fs (ml G) G.L k) ∧ wr = w.drewN q) (fun _ v _ => G.n - (intOf v).toNat)
    case atStart => exact ⟨0, 0, Nat.zero_le _, rfl, rfl, rfl⟩
    case round =>
      obtain ⟨k, q, hk, rfl, rfl, rfl⟩ := hrel
      by_cases hlt : k < G.n
      · have hix := g_idx h 22 (Or.inl rfl) .i64 k hlt
        have hc := (h.g k hlt).2
        have hlk := HL.out k hlt
        by_cases hk2 : G.L k < 2
        · have HF : Hid (fs (ml G) G.L (k + 1) = fs (ml G) G.L k) := by
            show fs (ml G) G.L (k + 1) = fs (ml G) G.L k
            rw [fs, if_pos hk2]
          go_wp2
          go_roundw
          case rel => exact ⟨k + 1, q, by omega, by go_num, by rw [HF.out], rfl⟩
          case measure => simp [intOf]; omega
        · have HFn : Hid (fs (ml G) G.L (k + 1) = fadd (fs (ml G) G.L k) (term (mRow G.L G.Z k (G.L k)) (G.L k))) := by
            show fs (ml G) G.L (k + 1) = fadd (fs (ml G) G.L k) (term (ml G k) (G.L k))
            rw [fs, if_neg hk2]
          have hfs : NN (fs (ml G) G.L k) := fs_nn _ _ _ fun v hv => HL.out v (by omega)
          generalize fs (ml G) G.L k = acc at *
          go_wp2
          go_loopw [8, 9] (fun s i wr => ∃ m q : Nat, m ≤ G.L k ∧ i = .int .i64 m ∧ s = .int .i64 (mRow G.L G.Z k m) ∧ wr = w.drewN q) (fun _ i _ => G.L k - (intOf i).toNat)
          case atStart => exact ⟨0, q, Nat.zero_le _, rfl, rfl, rfl⟩
          case round =>
            obtain ⟨m, q, hm, rfl, rfl, rfl⟩ := hrel
            have hb1 := mRow_le (G := G) HL.out hlt (i := m)
            by_cases hmt : m < G.L k
            · have hix2 := row_idx (h.r k hlt) (G.C k) m hmt
              have hc2 := ((h.r k hlt) m hmt).2
              obtain ⟨g1, g2⟩ := HS.out.range k hlt m hmt
              obtain ⟨u, hu⟩ := Int.eq_ofNat_of_zero_le g1
              have HU : Hid ((G.Z k m).toNat = u) := by unfold Hid; omega
              have HU2 : Hid (G.Z k m = u) := hu
              rw [hu] at hc2 g2
              clear g1 hu
              have hun : u < G.n := by omega
              go_wp2
              go_loopw [8, 10] (fun s i wr => ∃ j q : Nat, j ≤ G.L k ∧ i = .int .i64 j ∧ s = .int .i64 ((mRow G.L G.Z k m + mOne G.L G.Z k m j : Nat) : Int) ∧ wr = w.drewN q) (fun _ i _ => G.L k - (intOf i).toNat)
              case atStart => exact ⟨0, q, Nat.zero_le _, rfl, rfl, rfl⟩
              case round =>
                obtain ⟨j, q, hj, rfl, rfl, rfl⟩ := hrel
                have hb2 := mOne_le G.L G.Z k m j
                by_cases hjt : j < G.L k
                · have hix4 := row_idx (h.r k hlt) (G.C k) j hjt
                  have hc4 := ((h.r k hlt) j hjt).2
                  have hs1 := mOne_succ G.L G.Z k m j
                  rw [HU.out] at hs1
                  by_cases hmj : m = j
                  · have hd : ((m : Int) != (j : Int)) = false := by rw [bne_eq_false_iff_eq]; omega
                    have HS1 : Hid (mOne G.L G.Z k m (j + 1) = mOne G.L G.Z k m j) := by
                      unfold Hid; rw [hs1, beq_iff_eq.2 hmj]; rfl
                    clear hs1 hmj
                    go_wp2
                    go_quiet (fail)
                    go_wp2
                    go_roundw
                    case rel => exact ⟨j + 1, _, by omega, by go_num, by rw [HS1.out], rfl⟩
                    case measure => simp [intOf]; omega
                  · have hd : ((m : Int) != (j : Int)) = true := by rw [bne_iff_ne]; omega
                    have HS1 : Hid (mOne G.L G.Z k m (j + 1) = mOne G.L G.Z k m j + (hasB (G.L u) (G.Z u) (G.Z k j)).toNat) := by
                      unfold Hid; rw [hs1, beq_eq_false_iff_ne.2 hmj]; rfl
                    clear hs1
                    have hq := In.drewN h q
                    have HQ : Hid (∃ q', w.drewN q = w.drewN q') := ⟨q, rfl⟩
                    go_wp2
                    generalize w.drewN q = wq at hq HQ ⊢
                    have hcon := fun n => hasEdge_any G u (G.Z k j) (wq.drewN n) (In.drewN hq n) hun
                    have hcq2 : wq.cell? ⟨G.B k, G.O k + m, none⟩ = some (.int .i32 u) := by
                      rw [((hq.r k hlt) m hmt).2]; have := HU2.out; rw [this]
                    have hcq4 := ((hq.r k hlt) j hjt).2
                    clear hc2 hc4 hc hq
                    generalize hasB (G.L u) (G.Z u) (G.Z k j) = bb at hcon HS1
                    go_quiet ((go_at_call 12; exact Calls.quiet_of_same (hcon _)))
                    clear hcon
                    cases bb with
                    | true =>
                      go_wp2
                      go_roundw
                      case rel =>
                        obtain ⟨q', hq'⟩ := HQ.out
                        exact ⟨j + 1, _, by omega, by go_num, by rw [HS1.out]; simp; omega, by rw [hq', World.drewN_drewN]⟩
                      case measure => simp [intOf]; omega
                    | false =>
                      go_wp2
                      go_roundw
                      case rel =>
                        obtain ⟨q', hq'⟩ := HQ.out
                        exact ⟨j + 1, _, by omega, by go_num, by rw [HS1.out]; simp, by rw [hq', World.drewN_drewN]⟩
                      case measure => simp [intOf]; omega
                · have hje : j = G.L k := by omega
                  have HE : Hid (mRow G.L G.Z k (m + 1) = mRow G.L G.Z k m + mOne G.L G.Z k m j) := by
                    show mRow G.L G.Z k (m + 1) = _
                    rw [mRow_succ, hje]
                  clear hje
                  go_wp2
                  go_roundw
                  case rel => exact ⟨m + 1, _, by omega, by go_num, by rw [HE.out], rfl⟩
                  case measure => simp [intOf]; omega
            · have hme : m = G.L k := by omega
              subst hme
              have hpc := prod_cast (k := G.L k) (by omega)
              have hpl := prod_le hlk
              have hfp := fn_pairs (k := G.L k) (by omega) hlk
              have hq := run_fdiv (ofInt_nn (mRow G.L G.Z k (G.L k))) hfp
              have ha := run_fadd hfs (term_nn (mRow G.L G.Z k (G.L k)) (k := G.L k) (by omega) hlk)
              unfold term at ha
              unfold term at HFn
              rw [← hpc] at hq ha HFn
              have hp0 : 0 ≤ (G.L k : Int) * ((G.L k : Int) - 1) := by rw [hpc]; omega
              have hp1 : (G.L k : Int) * ((G.L k : Int) - 1) ≤ 65536 := by rw [hpc]; omega
              clear hpc hpl hfp hfs
              go_wp2
              go_roundw
              case rel => exact ⟨k + 1, _, by omega, by go_num, by rw [HFn.out], rfl⟩
              case measure => simp [intOf]; omega
      · have hfs : NN (fs (ml G) G.L k) := fs_nn _ _ _ fun v hv => HL.out v (by omega)
        have hkn : k = G.n := by omega
        subst hkn
        have HR : Hid (res (ml G) G.L G.n = fdiv (fs (ml G) G.L G.n) (floatOfInt .f64 (G.n : Int))) := by unfold Hid res; rw [if_neg h0]
        have hq := run_fdiv hfs (fn_len h0 hn)
        go_wp2
        go_ret
        exact FloatP.mkq HR.out.symm
end Go.Proofs.Qxb6602927a
