/-
  Seat b6601041a: (*run).find: a run of one character or more.
-/
import Derived.Test.Qxb6601041aFindA
import Derived.Test.Qxb6601041aShelf2
import Derived.Deep.Cut
import Derived.Deep.CutRange
import Derived.Laws.Bits64b
namespace Go.Proofs.Qxb6601041a
open Go.RowKit

/-- The words S of the state at sb; all else is as in w2. -/
structure Mem (w2 : World) (sb wd sc : Nat) (S : Nat → Nat) (wr : World) : Prop where
  cells : ∀ t, t < wd → wr.cell? ⟨sb, t, none⟩ = some (.int .u64 (S t : Nat))
  frz : ∀ t, wr.frozen? ⟨sb, t, none⟩ = false
  lt : ∀ t, S t < 18446744073709551616
  row : ∃ cur, wr.heap[sb]? = some (.cells cur 65 (0, 0)) ∧ cur.size = sc
  os : wr.os = w2.os
  tape : wr.tape = w2.tape
  output : wr.output = w2.output
  size : wr.heap.size = w2.heap.size
  block : ∀ k, k ≠ sb → wr.heap[k]? = w2.heap[k]?

theorem Mem.drewN {w2 : World} {sb wd sc : Nat} {S : Nat → Nat} {wr : World} (h : Mem w2 sb wd sc S wr) (q : Nat) : Mem w2 sb wd sc S (wr.drewN q) := ⟨h.cells, h.frz, h.lt, h.row, h.os, h.tape, h.output, h.size, h.block⟩
theorem Mem.drew {w2 : World} {sb wd sc : Nat} {S : Nat → Nat} {wr : World} (h : Mem w2 sb wd sc S wr) : Mem w2 sb wd sc S wr.drew := ⟨h.cells, h.frz, h.lt, h.row, h.os, h.tape, h.output, h.size, h.block⟩
theorem Mem.set {w2 : World} {sb wd sc : Nat} {S : Nat → Nat} {wr : World} (h : Mem w2 sb wd sc S wr) {t v : Nat} (ht : t < wd) (hv : v < 18446744073709551616) : Mem w2 sb wd sc (upd S t v) (wr.setCell ⟨sb, t, none⟩ (.int .u64 (v : Nat))) := by
  obtain ⟨cur, h1, h2⟩ := h.row
  have hg := heap_setCell_same wr sb t cur 65 (.int .u64 (v : Nat)) h1
  refine ⟨fun u hu => ?_, fun u => by simp [World.frozen?, hg], fun u => ?_, ⟨_, hg, by simpa using h2⟩, h.os, h.tape, h.output, by simpa using h.size, fun k hk => ?_⟩
  · have h3 := h.cells u hu
    simp only [World.cell?, hg, h1] at h3 ⊢
    unfold upd
    by_cases e : u = t
    · subst e
      have hlt : u < cur.size := by
        rcases Nat.lt_or_ge u cur.size with h4 | h4
        · exact h4
        · simp [h4] at h3
      simp [hlt]
    · simp [e, Ne.symm e] at h3 ⊢
      exact h3
  · unfold upd
    split
    · exact hv
    · exact h.lt u
  · rw [heap_setCell_other _ _ _ _ hk]
    exact h.block k hk

theorem Mem.env {w2 : World} {sb wd sc : Nat} {S : Nat → Nat} {wr : World} {D : Dat} (h : Mem w2 sb wd sc S wr) (he : Env D w2) (hu : ∀ b, Uses D b → b ≠ sb) (hf : D.fb ≠ sb) : Env D wr :=
  he.kept (fun b hb => h.block b (hu b hb)) (World.cell?_of_block (h.block _ hf)) (World.cell?_of_block (h.block _ hf))

theorem StateW.mem {w : World} {fb : Nat} {xv yv sv : Value} {wd sb sc : Nat} {w2 : World} (h : StateW w fb xv yv sv wd sb sc w2) : Mem w2 sb wd sc (fun _ => 0) w2 := by
  obtain ⟨cur, h1, h2⟩ := h.row
  exact ⟨fun t ht => h.zero t ht, fun t => by simp [World.frozen?, h1], fun t => by decide, ⟨cur, h1, h2⟩, rfl, rfl, rfl, rfl, fun _ _ => rfl⟩

theorem StateW.env {D : Dat} {w : World} {sv : Value} {wd sb sc : Nat} {w2 : World} (h : StateW w D.fb (.slice D.y.s D.y.n D.y.c) (.slice D.z.s D.z.n D.z.c) sv wd sb sc w2) (he : Env D w) (hu : ∀ b, Uses D b → b < w.heap.size ∧ b ≠ D.fb ∧ sv.ownBlock ≠ some b) : Env D w2 := by
  refine he.kept (fun b hb => h.block b (hu b hb).1 (hu b hb).2.1 (hu b hb).2.2) ?_ ?_
  · rw [he.fold.f0]
    simp [World.cell?, h.fold]
  · rw [he.fold.f1]
    simp [World.cell?, h.fold]

theorem StateW.find {D : Dat} {w : World} {sv : Value} {wd sb sc : Nat} {w2 wr : World} {S : Nat → Nat} (h : StateW w D.fb (.slice D.y.s D.y.n D.y.c) (.slice D.z.s D.z.n D.z.c) sv wd sb sc w2) (hm : Mem w2 sb wd sc S wr) : FindW w D.fb (.slice D.y.s D.y.n D.y.c) (.slice D.z.s D.z.n D.z.c) sv wr := by
  have hlt := h.lt
  have hle := h.le
  obtain ⟨cur, h1, h2⟩ := hm.row
  refine ⟨⟨_, by rw [hm.block _ (by omega)]; exact h.fold, Or.inr ⟨sb, wd, sc, cur, rfl, hlt, h1, h2, hle, h.big⟩, ?_⟩, hm.os.trans h.os, hm.tape.trans h.tape, hm.output.trans h.output, by rw [hm.size]; exact h.size, fun k hk h3 h4 => ?_⟩
  · rcases h.new with h3 | h3
    · exact Or.inl (by rw [h3]; rfl)
    · refine Or.inr fun b hb => ?_
      simp [Value.ownBlock] at hb
      omega
  · have hks : k ≠ sb := by
      intro e
      subst e
      rcases h.new with h5 | h5
      · exact h4 h5
      · omega
    rw [hm.block k hks]
    exact h.block k hk h3 h4

theorem least_of (p : Nat → Prop) : ∀ n, (∀ t, t < n → ¬ p t) ∨ ∃ t, t < n ∧ p t ∧ ∀ u, u < t → ¬ p u
  | 0 => Or.inl fun t ht => absurd ht (Nat.not_lt_zero _)
  | n + 1 => by
    rcases least_of p n with h | ⟨t, h1, h2, h3⟩
    · by_cases hp : p n
      · exact Or.inr ⟨n, by omega, hp, h⟩
      · refine Or.inl fun t ht => ?_
        rcases Nat.lt_or_ge t n with h1 | h1
        · exact h t h1
        · obtain rfl : t = n := by omega
          exact hp
    · exact Or.inr ⟨t, by omega, h2, h3⟩

/-- slices.Index's answer. -/
def IdxP (n : Nat) (Z : Nat → Int) (x : Int) (w : World) (e : Ending) (w' : World) : Prop :=
  ∃ k : Int, e = .returned (.int .i64 k) ∧ w' = w ∧ ((k = -1 ∧ ∀ t, t < n → Z t ≠ x) ∨ ∃ t : Nat, k = t ∧ t < n ∧ Z t = x ∧ ∀ u, u < t → Z u ≠ x)

theorem index_fn (b off n c : Nat) (Z : Nat → Int) (x : Int) (w : World) (hbig : n ≤ 9223372036854775807) (hc : ∀ t, t < n → w.cell? ⟨b, off + t, none⟩ = some (.int .i32 (Z t))) :
    Calls Try.prog 47 #[.slice (some ⟨b, off, none⟩) n c, .int .i32 x] w (IdxP n Z x w) := by
  have hg : ∀ t, t < n → ((List.range n).map Z)[t]! = Z t := fun t ht => by simp [ht]
  refine (index_any b off n c ((List.range n).map Z) x w (by simp) hbig (fun j hj => by
    have hj' : j < n := by simpa using hj
    rw [hg j hj']
    exact hc j hj')).mono ?_
  rintro e w' ⟨rfl, rfl⟩
  refine ⟨_, rfl, rfl, ?_⟩
  rcases least_of (fun t => Z t = x) n with h | ⟨t, h1, h2, h3⟩
  · exact Or.inl ⟨Lib.idxBy_miss _ _ n x (fun j hj => by rw [hg j hj]; simpa using Ne.symm (h j hj)), h⟩
  · exact Or.inr ⟨t, Lib.idxBy_hit _ _ n t x h1 (by simp) (by rw [hg t h1]; simpa using h2.symm) (fun j hj => by rw [hg j (by omega)]; simpa using Ne.symm (h3 j hj)), h1, h2, h3⟩

theorem slice_from22 {x : Sl} {w : World} {V : Nat → Value} (h : x.Has w V) (j : Nat) (hj : j < x.n) (hcap : x.n ≤ x.c) (w' : World) :
    (Instr.slice 22 (.slice x.s x.n x.c) (some (.int .i64 j)) none none).run Try.prog w' = .ok (.slice (some ⟨x.b, x.off + j, none⟩) (x.n - j) (x.c - j)) w' := by
  have hl := h.len
  rw [(h.row j hj).1]
  simp [Instr.slice, run_underlying Try.underlying22, Instr.sliceBounds, Instr.sliceBound, asIntOf, go_sem]
  rw [if_pos (by omega), if_neg (by omega)]

/-- The state in the midst of one character's round: the words below i are done. -/
def mixS (S M : Nat → Nat) (c i : Nat) : Nat → Nat := fun u => if u < i then stepW S M c u else S u
theorem mixS_at (S M : Nat → Nat) (c i : Nat) : mixS S M c i i = S i := if_neg (Nat.lt_irrefl i)
theorem mixS_next (S M : Nat → Nat) (c i : Nat) : upd (mixS S M c i) i (stepW S M c i) = mixS S M c (i + 1) := by
  funext u
  unfold upd mixS
  by_cases h1 : u = i
  · subst h1
    simp
  · rw [if_neg h1]
    have e : u < i ↔ u < i + 1 := by omega
    simp only [e]
theorem mixS_zero (S M : Nat → Nat) (c : Nat) : mixS S M c 0 = S := by
  funext u
  exact if_neg (Nat.not_lt_zero u)

theorem step_word (s c m : Nat) (hc : c < 18446744073709551616) (hm : m < 18446744073709551616) :
    bits .and .u64 (bits .or .u64 (IntKind.u64.wrap ((s : Int) * 2)) (c : Int)) (m : Int) = ((((s * 2) % 18446744073709551616 ||| c) &&& m : Nat) : Int) := by
  have h1 : IntKind.u64.wrap ((s : Int) * 2) = (((s * 2) % 18446744073709551616 : Nat) : Int) := by rw [IntKind.wrap_u64]; omega
  have h2 : (s * 2) % 18446744073709551616 < 18446744073709551616 := Nat.mod_lt _ (by decide)
  have h3 : ((s * 2) % 18446744073709551616 ||| c) < 18446744073709551616 := by
    have := Nat.or_lt_two_pow (n := 64) (x := (s * 2) % 18446744073709551616) (y := c) (by simpa using h2) (by simpa using hc)
    simpa using this
  rw [h1, bits_or_u64_nat _ _ h2 hc, bits_and_u64_nat _ _ h3 hm]

theorem mixS_lt {S M : Nat → Nat} {c i u : Nat} (h : u < i) : mixS S M c i u = stepW S M c u := if_pos h
theorem bitAt_mixS {S M : Nat → Nat} {c wd i : Nat} (h : i < 64 * wd) : bitAt (mixS S M c wd) i = bitAt (stepW S M c) i := by
  unfold bitAt
  rw [mixS_lt (by omega)]
theorem hit_iff (x b : Nat) : (((x &&& 2 ^ b : Nat) : Int) != 0) = x.testBit b := by
  cases h : x.testBit b with
  | true =>
    have h1 : (x &&& 2 ^ b).testBit b = true := by rw [Nat.testBit_and, h, Nat.testBit_two_pow]; simp
    have h2 : x &&& 2 ^ b ≠ 0 := fun e => by rw [e] at h1; simp at h1
    simp only [bne_iff_ne, ne_eq]
    omega
  | false =>
    have h1 : x &&& 2 ^ b = 0 := by
      apply Nat.eq_of_testBit_eq
      intro j
      rw [Nat.testBit_and, Nat.testBit_two_pow, Nat.zero_testBit]
      by_cases e : b = j
      · subst e
        simp [h]
      · simp [e]
    rw [h1]
    rfl

theorem capk {D : Dat} (h : DOk D) {k : Nat} (hk : k ≤ D.l.n) : D.wd ≤ D.mc - k * D.wd := by
  have h1 := h.mn
  have h2 := h.mc
  have h3 := Nat.mul_le_mul_right D.wd hk
  rw [Nat.add_mul, Nat.one_mul] at h1
  omega

theorem mask_kept {w2 wc : World} {sb wd sc : Nat} {S : Nat → Nat} (hm : Mem w2 sb wd sc S wc) {mb mo : Nat} (hne : mb ≠ sb) {F : Nat → Nat} (hc : ∀ u, u < wd → wc.cell? ⟨mb, mo + u, none⟩ = some (.int .u64 (F u : Nat))) :
    ∀ wx : World, (∀ b, b ≠ sb → wx.heap[b]? = w2.heap[b]?) → ∀ u, u < wd → wx.cell? ⟨mb, mo + u, none⟩ = some (.int .u64 (F u : Nat)) := fun wx hb u hu => by
  rw [← hc u hu]
  have h1 : wx.heap[mb]? = wc.heap[mb]? := by rw [hb _ hne, hm.block _ hne]
  exact World.cell?_of_block (a := ⟨mb, mo + u, none⟩) h1

/-- The loop's head at j: the state S, idle. -/
structure AtJ (D : Dat) (fr : Nat) (st en : Bool) (w2 : World) (sb sc : Nat) (S : Nat → Nat) (j : Nat) (idle : Bool) (wr : World) : Prop where
  mem : Mem w2 sb D.wd sc S wr
  head : Head D.x.n D.C D.y.n D.V D.W fr st en D.wd S j
  idle : idle = true → ∀ t, t < D.wd → S t = 0

set_option maxRecDepth 100000 in
set_option maxHeartbeats 4000000 in
theorem find_some {D : Dat} {w : World} {sv : Value} (h : Env D w) (hk : DOk D) (h0 : 0 < D.x.n) (hf : w.heap[D.fb]? = some (.cells #[.slice D.y.s D.y.n D.y.c, .slice D.z.s D.z.n D.z.c, sv] 52 (0, 0))) (hs : Scr w D.fb sv)
    (hu : ∀ b, Uses D b → b < w.heap.size ∧ b ≠ D.fb ∧ sv.ownBlock ≠ some b) (fr : Nat) (st en : Bool) :
    Calls Try.prog 39 #[.pointer (some ⟨D.rb, 0, none⟩), .pointer (some ⟨D.fb, 0, none⟩), .int .i64 fr, .bool st, .bool en] w (FindP D fr st en w sv) := by
  have hwd0 : 0 < D.wd := by rw [hk.wd]; omega
  have hwdb : D.wd ≤ 1048576 := by have := hk.xbig; rw [hk.wd]; omega
  have hst := hid (state_any hf hs D.wd hwd0 hwdb)
  have f1 := h.run.f1
  have f2 := h.run.f2
  have v0 := h.fold.f0
  have hbig : D.y.n ≤ 1048576 := h.fold.big
  have hxb : D.x.n ≤ 1048576 := hk.xbig
  have HE := hid h
  have HK := hid hk
  have HU := hid hu
  clear h hf hs hk hu
  go_enter Try.func39, Try.ntmps39
  go_upto_region 10 with (go_at_call 46; refine hst.out.mono ?_; rintro e w2 ⟨sb, sc, rfl, hS⟩)
  have he2 := hS.env HE.out HU.out
  have hus : ∀ b, Uses D b → b ≠ sb := fun b hb e => by
    subst e
    obtain ⟨h1, h2, h3⟩ := HU.out b hb
    rcases hS.new with h4 | h4
    · exact h3 h4
    · omega
  have hfs : D.fb ≠ sb := by have := hS.lt; omega
  have HE2 := hid he2
  have HUS := hid hus
  have HFS := hid hfs
  have HS := hid hS
  have HM := hid hS.mem
  have g1 := he2.run.f1
  have g2 := he2.run.f2
  have hix : ∀ w', (Instr.indexAt 22 (.slice D.x.s D.x.n D.x.c) (.int .i64 0)).run Try.prog w' = .ok (.pointer (some ⟨D.x.b, D.x.off, none⟩)) w' := fun w' => by simpa using idx22 he2.hx 0 h0 w'
  have hc := he2.hx.cell h0
  clear he2 hus hfs hS f1 f2 v0 hst
  simp only [Nat.add_zero] at hc
  obtain ⟨T, hT⟩ : ∃ T : Nat, T = 2 ^ ((D.x.n - 1) % 64) := ⟨_, rfl⟩
  have htop : IntKind.u64.wrap (2 ^ ((D.x.n - 1) % 64)) = (T : Int) := by
    have h1 : (2 : Nat) ^ ((D.x.n - 1) % 64) < 2 ^ 64 := Nat.pow_lt_pow_right (by decide) (Nat.mod_lt _ (by decide))
    have h2 : ((2 ^ ((D.x.n - 1) % 64) : Nat) : Int) = (2 : Int) ^ ((D.x.n - 1) % 64) := by simp
    rw [← h2, hT]
    simp [IntKind.wrap, IntKind.bits, IntKind.signed]
    omega
  have HT := hid hT
  obtain ⟨L, hL⟩ : ∃ L : Nat, D.wd = L + 1 := ⟨D.wd - 1, by omega⟩
  have hlast : (D.wd : Int) - 1 = (L : Int) := by omega
  have HL := hid hL
  clear hT hL
  go_quiet (fail)
  rw [htop]
  generalize hwq : w2.drewN nq = wq
  have HM2 : Hid (Mem w2 sb D.wd sc (fun _ => 0) wq) := by rw [← hwq]; exact hid (HM.out.drewN nq)
  have g1' : wq.cell? ⟨D.rb, 1, none⟩ = some (.slice D.x.s D.x.n D.x.c) := by rw [← hwq]; exact g1
  have hc' : wq.cell? ⟨D.x.b, D.x.off, none⟩ = some (.int .i32 (D.C 0)) := by rw [← hwq]; exact hc
  clear hwq g1 hc g2
  go_wp2
  clear hix g1' hc' htop hlast
  go_loopw [18, 19] (fun a b wr => ∃ (j : Nat) (S : Nat → Nat) (idle : Bool), a = .bool idle ∧ b = .int .i64 j ∧ fr ≤ j ∧ (j ≤ D.y.n ∨ j = fr) ∧ Hid (AtJ D fr st en w2 sb sc S j idle wr)) (fun _ b _ => D.y.n - (intOf b).toNat)
  case atStart => exact ⟨fr, fun _ => 0, true, rfl, rfl, Nat.le_refl _, Or.inr rfl, ⟨HM2.out, head_begin fr h0 (fun _ _ => rfl), fun _ _ _ => rfl⟩⟩
  case round =>
    obtain ⟨j, S, idle, rfl, rfl, hfj, hjor, HA⟩ := hrel
    by_cases hjn : j < D.y.n
    · have v0 : wr.cell? ⟨D.fb, 0, none⟩ = some (.slice D.y.s D.y.n D.y.c) := (HA.out.mem.env HE2.out HUS.out HFS.out).fold.f0
      clear hjor
      go_upto_region 15 with fail
      go_cut [94] from 85 to 180 (fun s94 wx => s94 = .bool (idle && decide (D.C 0 ≠ -1)) ∧ wx = wr)
      case first =>
        by_cases hC : D.C 0 = -1
        · have hC' : (D.C 0 != -1) = false := by simp [hC]
          cases idle <;> go_wp2 <;> go_meet
          all_goals exact ⟨by simp [hC], rfl⟩
        · have hC' : (D.C 0 != -1) = true := by simp [hC]
          cases idle <;> go_wp2 <;> go_meet
          all_goals exact ⟨by simp [hC], rfl⟩
      case rest =>
        obtain ⟨rfl, rfl⟩ := hcut
        go_upto_if 94 with fail
        go_cut [19, 20] from 85 to 180 (fun s19 s20 wx => ∃ j' : Nat, s19 = .int .i64 j' ∧ j ≤ j' ∧ j' < D.y.n ∧ wx = wc ∧ Hid (AtJ D fr st en w2 sb sc S j' idle wc))
        case first =>
          cases hb : (idle && decide (D.C 0 ≠ -1)) with
          | false =>
            go_wp2
            go_meet
            exact ⟨j, rfl, Nat.le_refl _, hjn, rfl, HA⟩
          | true =>
            have hbb := hid (show idle = true ∧ D.C 0 ≠ -1 by simpa using hb)
            have he := HA.out.mem.env HE2.out HUS.out HFS.out
            have hsl := slice_from22 he.fold.hx j hjn HK.out.ycap
            have hidx := index_fn D.y.b (D.y.off + j) (D.y.n - j) (D.y.c - j) (fun t => D.V (j + t)) (D.C 0) wc (by omega) (fun t ht => by
              have := he.fold.hx.cell (show j + t < D.y.n by omega)
              rwa [← Nat.add_assoc] at this)
            have HX := hid hidx
            have hdead := hid (fun k hk => head_skip HA.out.head h0 (by have := HK.out.wd; omega) (HA.out.idle hbb.out.1) hbb.out.2 k hk)
            clear hidx he
            go_wp2_with (go_at_call 47; refine HX.out.mono ?_; rintro e w' ⟨k, rfl, rfl, hk⟩)
            · refine bodyPost_ret (by simp [results, Try.results39, go_sem]; try rfl) rfl ?_
              refine FindP.mk (head_end (hdead.out (D.y.n - j) ?_) (by omega)) (HS.out.find HA.out.mem)
              rcases hk with ⟨_, h1⟩ | ⟨t, h1, _⟩
              · exact h1
              · omega
            · go_meet
              rcases hk with ⟨h1, _⟩ | ⟨t, rfl, h1, h2, h3⟩
              · omega
              · exact ⟨j + t, by go_num, by omega, by omega, rfl, HA.out.mem, hdead.out t h3, HA.out.idle⟩
        case rest =>
          obtain ⟨j', rfl, hjj, hjn', rfl, HA'⟩ := hcut
          clear HA v0 hjn
          have he := HA'.out.mem.env HE2.out HUS.out HFS.out
          have HEc := hid he
          have hbw := hid (begins_any he.fold j' (by omega))
          clear he
          have HJJ := hid hjj
          clear hjj
          go_upto_region 21 with fail
          go_cut [114] from 85 to 180 (fun s114 wx => s114 = .bool (!st || begB D.W j') ∧ wx = wc)
          case first =>
            cases hbg : begB D.W j' <;> cases st
            all_goals go_wp2_with (go_at_call 44; refine hbw.out.mono ?_; rintro e w' ⟨rfl, rfl⟩)
            all_goals go_meet
            all_goals exact ⟨by simp [hbg], rfl⟩
          case rest =>
            obtain ⟨rfl, rfl⟩ := hcut
            go_upto_if 114 with fail
            go_cut [21] from 85 to 180 (fun s21 wx => ∃ cb : Nat, s21 = .int .u64 (cb : Nat) ∧ (cb = 0 ∨ cb = 1) ∧ Hid (cb = 1 ↔ (st = true → Beg D.W j')) ∧ wx = wc)
            case first =>
              cases hbg : (!st || begB D.W j')
              · go_wp2
                go_meet
                refine ⟨0, rfl, Or.inl rfl, ?_, rfl⟩
                refine hid ?_
                rw [← begB_iff]
                revert hbg
                cases st <;> simp
              · go_wp2
                go_meet
                refine ⟨1, rfl, Or.inr rfl, ?_, rfl⟩
                refine hid ?_
                rw [← begB_iff]
                revert hbg
                cases st <;> simp
            case rest =>
              obtain ⟨cb, rfl, hcb, HCB, rfl⟩ := hcut
              have v0 := HEc.out.fold.f0
              have hix := idx22 HEc.out.fold.hx j' hjn'
              have hc := HEc.out.fold.hx.cell hjn'
              have hmk := hid (mask_any HEc.out.run HEc.out.hl HK.out.sorted HK.out.lbig hwdb hwd0 HK.out.mn HK.out.mc HK.out.mcb (D.V j'))
              go_upto_region 24 with (go_at_call 48; refine hmk.out.mono ?_; rintro e w' ⟨k, q, hrow, hkl, rfl, rfl⟩; have hcapk := capk HK.out hkl)
              have HJN := hid hjn'
              have HRW := hid hrow
              have hmlt : ∀ u, u < D.wd → k * D.wd + u < D.mn := fun u hu => by
                have h1 := HK.out.mn
                have h3 := Nat.mul_le_mul_right D.wd hkl
                rw [Nat.add_mul, Nat.one_mul] at h1
                omega
              have HMC : Hid (∀ u, u < D.wd → wc.cell? ⟨D.mb, D.mo + k * D.wd + u, none⟩ = some (.int .u64 (D.Mk (k * D.wd + u) : Nat))) := fun u hu => by
                have := HEc.out.hm (k * D.wd + u) (hmlt u hu)
                rwa [← Nat.add_assoc] at this
              have HMB := hid (HUS.out D.mb (Or.inr (Or.inr (Or.inr (Or.inl ⟨by have := hmlt 0 hwd0; omega, rfl⟩)))))
              clear v0 hix hc hmk hbw hjn' hrow hmlt
              revert HMC hcapk
              generalize D.mo + k * D.wd = mo'
              generalize D.mc - k * D.wd = mc'
              intro hcapk HMC
              generalize hwq : wc.drewN q = wd1
              have HM1 : Hid (Mem w2 sb D.wd sc S wd1) := by rw [← hwq]; exact hid (HA'.out.mem.drewN q)
              have HMC1 := hid (mask_kept HA'.out.mem HMB.out HMC.out)
              clear hwq HMC hcapk
              --TAIL
              obtain ⟨M, hM⟩ : ∃ M : Nat → Nat, M = fun u => D.Mk (k * D.wd + u) := ⟨_, rfl⟩
              have HMM := hid hM
              have HMC2 : Hid (∀ wx : World, (∀ b, b ≠ sb → wx.heap[b]? = w2.heap[b]?) → ∀ u, u < D.wd → wx.cell? ⟨D.mb, mo' + u, none⟩ = some (.int .u64 (M u : Nat))) := by rw [hM]; exact HMC1
              have HMlt : Hid (∀ u, M u < 18446744073709551616) := fun u => by rw [hM]; exact HK.out.lt _
              clear hM HMC1
              go_wp2
              go_loopw [18, 21, 129] (fun a c t wr => ∃ (i : Nat) (b : Bool) (cy : Nat), a = .bool b ∧ c = .int .u64 (cy : Nat) ∧ t = .int .i64 i ∧ i ≤ D.wd ∧ Hid (cy = if i = 0 then cb else S (i - 1) / 9223372036854775808) ∧
                Hid (Mem w2 sb D.wd sc (mixS S M cb i) wr) ∧ Hid (b = true → ∀ u, u < i → stepW S M cb u = 0)) (fun _ _ t _ => D.wd - (intOf t).toNat)
              case atStart => exact ⟨0, true, cb, rfl, rfl, rfl, Nat.zero_le _, rfl, by rw [mixS_zero]; exact HM1, fun _ u hu => absurd hu (Nat.not_lt_zero _)⟩
              case round =>
                obtain ⟨i, b, cy, rfl, rfl, rfl, hiw, HCY, HMI, HBI⟩ := hrel
                by_cases hiw' : i < D.wd
                · have hcs : wr.cell? ⟨sb, i, none⟩ = some (.int .u64 (S i : Nat)) := by have := HMI.out.cells i hiw'; rwa [mixS_at] at this
                  have hfz : wr.frozen? ⟨sb, i, none⟩ = false := HMI.out.frz i
                  have hcm := HMC2.out wr HMI.out.block i hiw'
                  have hSlt : S i < 18446744073709551616 := HA'.out.mem.lt i
                  go_upto_region 29 with fail
                  go_region
                  have hcy1 : cy < 18446744073709551616 := by
                    have h1 := HCY.out
                    split at h1
                    · omega
                    · have := HA'.out.mem.lt (i - 1)
                      omega
                  have hX : bits .and .u64 (bits .or .u64 (IntKind.u64.wrap ((S i : Int) * 2)) (cy : Int)) (M i : Int) = ((stepW S M cb i : Nat) : Int) := by
                    rw [step_word _ _ _ hcy1 (HMlt.out i), HCY.out]
                    rfl
                  rw [hX]
                  have HXlt := hid (stepW_lt S M cb i (HMlt.out i))
                  have HM3 := hid ((HMI.out.set hiw' HXlt.out).drew)
                  rw [mixS_next] at HM3
                  have HXd := hid (show stepW S M cb i = stepW S M cb i from rfl)
                  clear hX hcs hfz hcm hcy1
                  revert HM3
                  generalize (wr.setCell ⟨sb, i, none⟩ (.int .u64 ((stepW S M cb i : Nat) : Int))).drew = w3
                  intro HM3
                  have hc3 : w3.cell? ⟨sb, i, none⟩ = some (.int .u64 (stepW S M cb i : Nat)) := by
                    have := HM3.out.cells i hiw'
                    simpa [mixS] using this
                  revert hc3 HXd
                  generalize hXX : stepW S M cb i = X
                  have HXX := hid hXX
                  clear hXX
                  intro hc3 _
                  have HC2 : Hid (((S i / 9223372036854775808 : Nat) : Int) = (S i : Int) / 9223372036854775808) := by simp [Hid]
                  have hstep : ∀ b' : Bool, (b' = true → b = true ∧ X = 0) → Hid (b' = true → ∀ u, u < i + 1 → stepW S M cb u = 0) := fun b' hb' h1 u hu => by
                    obtain ⟨h2, h3⟩ := hb' h1
                    rcases Nat.lt_or_ge u i with h4 | h4
                    · exact HBI.out h2 u h4
                    · obtain rfl : u = i := by omega
                      rw [HXX.out, h3]
                  have HST := hid hstep
                  clear hstep
                  cases b with
                  | false =>
                    go_wp2
                    go_roundw
                    case rel => exact ⟨i + 1, false, S i / 9223372036854775808, rfl, by rw [HC2.out], by go_num, by omega, by simp [Hid], HM3, HST.out false (by simp)⟩
                    case measure => simp [intOf]; omega
                  | true =>
                    by_cases hX0 : X = 0
                    · have hXb : ((X : Int) == 0) = true := by simp [hX0]
                      go_wp2
                      go_roundw
                      case rel => exact ⟨i + 1, true, S i / 9223372036854775808, rfl, by rw [HC2.out], by go_num, by omega, by simp [Hid], HM3, HST.out true (fun _ => ⟨rfl, hX0⟩)⟩
                      case measure => simp [intOf]; omega
                    · have hXb : ((X : Int) == 0) = false := by simp [hX0]
                      go_wp2
                      go_roundw
                      case rel => exact ⟨i + 1, false, S i / 9223372036854775808, rfl, by rw [HC2.out], by go_num, by omega, by simp [Hid], HM3, HST.out false (by simp)⟩
                      case measure => simp [intOf]; omega
                · obtain rfl : i = D.wd := by omega
                  have hSL : mixS S M cb D.wd L < 18446744073709551616 := HMI.out.lt L
                  have hTlt : T < 18446744073709551616 := by
                    rw [HT.out]
                    have := Nat.pow_lt_pow_right (a := 2) (by decide) (show (D.x.n - 1) % 64 < 64 from Nat.mod_lt _ (by decide))
                    simpa using this
                  have hand := bits_and_u64_nat _ _ hSL hTlt
                  have hcL : wr.cell? ⟨sb, L, none⟩ = some (.int .u64 (mixS S M cb D.wd L : Nat)) := HMI.out.cells L (by have := HL.out; omega)
                  have hYb : (((mixS S M cb D.wd L &&& T : Nat) : Int) != 0) = bitAt (stepW S M cb) (D.x.n - 1) := by
                    have hw := HK.out.wd
                    have hL := HL.out
                    rw [HT.out, hit_iff, ← bitAt_mixS (wd := D.wd) (by omega)]
                    unfold bitAt
                    rw [show (D.x.n - 1) / 64 = L by omega]
                  have hLw : L < D.wd := by have := HL.out; omega
                  have hends := hid (ends_any (HMI.out.env HE2.out HUS.out HFS.out).fold (j' + 1) (by have := HJN.out; omega))
                  rw [Int.natCast_succ] at hends
                  have hjb : j' ≤ 1048576 := by have := HJN.out; omega
                  have hbits := hid (head_step HA'.out.head (by have := HJJ.out; omega) HA'.out.mem.lt (M := M) (fun t ht => by
                    have := mask_says HK.out.rows HK.out.inn HRW.out t ht
                    rw [HMM.out]
                    exact this) cb hcb HCB.out)
                  revert hand hYb
                  generalize (mixS S M cb D.wd L &&& T) = Y
                  generalize hhit : bitAt (stepW S M cb) (D.x.n - 1) = hit
                  have HHIT := hid hhit
                  clear hhit
                  intro hand hYb
                  go_upto_region 33 with fail
                  go_cut [178] from 85 to 180 (fun s178 wx => s178 = .bool (hit && (!en || finB D.y.n D.W (j' + 1))) ∧ wx = wr)
                  case first =>
                    cases hit <;> cases hf : finB D.y.n D.W (j' + 1) <;> cases en
                    all_goals go_wp2_with (go_at_call 45; refine hends.out.mono ?_; rintro e w' ⟨rfl, rfl⟩)
                    all_goals go_meet
                    all_goals exact ⟨by simp [hf], rfl⟩
                  case rest =>
                    obtain ⟨rfl, rfl⟩ := hcut
                    have HYES : Hid ((hit && (!en || finB D.y.n D.W (j' + 1))) = true ↔ bitAt (stepW S M cb) (D.x.n - 1) = true ∧ (en = true → Fin D.y.n D.W (j' + 1))) := by
                      rw [HHIT.out, ← finB_iff]
                      refine hid ?_
                      cases hit <;> cases en <;> simp
                    have hmw : D.x.n ≤ 64 * D.wd := by have := HK.out.wd; omega
                    clear hSL hTlt hand hcL hYb hLw hends hiw hiw'
                    cases hb : (hit && (!en || finB D.y.n D.W (j' + 1))) with
                    | false =>
                      have hno := hid (head_next HA'.out.head h0 hmw (S' := mixS S M cb D.wd) (fun t ht => by rw [bitAt_mixS ht]; exact hbits.out t ht) (fun h1 => by
                        rw [bitAt_mixS (by omega)] at h1
                        rw [HYES.out.2 h1] at hb
                        cases hb))
                      go_wp2
                      go_roundw
                      case rel => exact ⟨j' + 1, mixS S M cb D.wd, b, rfl, by go_num, by have := HJJ.out; omega, Or.inl (by have := HJN.out; omega), ⟨HMI.out, hno.out, fun h1 t ht => by rw [mixS_lt ht]; exact HBI.out h1 t ht⟩⟩
                      case measure =>
                        have h1 := HJJ.out
                        have h2 := HJN.out
                        simp [intOf]
                        omega
                    | true =>
                      have hyes := hid (head_found HA'.out.head h0 hmw HJN.out hbits.out (HYES.out.1 hb))
                      go_wp2
                      refine bodyPost_ret (by simp [results, Try.results39, go_sem]; try rfl) rfl ?_
                      exact FindP.mk hyes.out (HS.out.find HMI.out)
    · go_wp2
      refine bodyPost_ret (by simp [results, Try.results39, go_sem]; try rfl) rfl ?_
      exact FindP.mk (head_end HA.out.head (by omega)) (HS.out.find HA.out.mem)
end Go.Proofs.Qxb6601041a
