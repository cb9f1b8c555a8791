/-
  THE WALKS, L: (*reader).place.
-/
import Derived.Test.Qxb6601102aDrop
import Derived.Deep.RegionWith
import Derived.Deep.Cut
namespace Go.Proofs.Qxb6601102a
open Go.RowKit

/-- What place finds: the reader with no note yet, the company, sizes. -/
structure PlaceIn (w : World) (rB cB : Nat) (rf : Nat → Value) (D : Dat) (ag tm : Sl) (A T Tm : Nat → Nat) (Y : Nat → Sl) : Prop where
  rd : w.rowIs rB 65 6 rf
  rd4 : rf 4 = .slice none 0 0
  comp : Comp w cB D ag tm A T Tm Y
  n : D.n ≤ 4096
  K : D.K ≤ 4096
  nm : ∀ k, k < D.K → D.nm k ≤ 1048576
  M : ∀ k, k < D.K → D.M k < D.n
  Z : ∀ k, k < D.K → ∀ j, j < D.nm k → 0 ≤ D.Z k j ∧ D.Z k j < D.n
  above : Above (rB + 1) D cB ag tm A T Tm Y

/-- What place leaves: the departments; the reader with the notes; nothing else turned. -/
def PlaceP (w : World) (rB : Nat) (rf : Nat → Value) (D : Dat) (e : Ending) (w' : World) : Prop :=
  ∃ dB s c B, e = .returned (.slice (some ⟨dB, 0, none⟩) D.n D.n) ∧ w.heap.size ≤ dB ∧ w.heap.size ≤ B ∧ (w'.rowIs dB 3 D.n fun j => .int .i64 (dept D j)) ∧ w'.rowIs rB 65 6 (setAt rf 4 (.slice s (dl D D.K).length c)) ∧ w'.ownsRow B 43 3 (.slice s (dl D D.K).length c) (dl D D.K).length (noteCells D (dl D D.K)) ∧ w.grownBy w' (some rB)

theorem R3.start (w : World) (n : Nat) (D : Dat) : R3 (w.alloc (.cells (madeCells #[.slice none 0 0] n) 24)) w.heap.size n (tj D 0 0) (fun _ => none) (fun _ => 0) (w.alloc (.cells (madeCells #[.slice none 0 0] n) 24)) :=
  ⟨(World.rowIs_made _ _ _ _).congr fun _ _ => rfl, fun _ _ => World.ownsRow_nil _ _ _ _, fun _ _ _ _ _ b hb => by simp [Value.ownBlock] at hb, World.grownBy.refl _ _, by simp⟩

set_option maxRecDepth 100000 in
set_option maxHeartbeats 4000000 in
theorem place_any {w : World} {rB cB : Nat} {rf : Nat → Value} {D : Dat} {ag tm : Sl} {A T Tm : Nat → Nat} {Y : Nat → Sl} (h : PlaceIn w rB cB rf D ag tm A T Tm Y) :
    Calls Try.prog 34 #[.pointer (some ⟨rB, 0, none⟩), .pointer (some ⟨cB, 0, none⟩)] w (PlaceP w rB rf D) := by
  have hc4 := h.comp.c4
  have hc6 := h.comp.c6
  have hcl : cB < w.heap.size := block_lt (a := ⟨cB, 4, none⟩) hc4
  have EA := hid h.comp.agn
  have ET := hid h.comp.tmn
  have hn := h.n
  have hK := h.K
  have hna : ag.n ≤ 4096 := by rw [h.comp.agn]; exact h.n
  have hnt : tm.n ≤ 4096 := by rw [h.comp.tmn]; exact h.K
  have hmk := run_make_row' (P := Try.prog) 25 24 (.slice none 0 0) 24 Try.underlying25 info24 rfl .i64 .i64 ag.n (by omega) (by omega)
  obtain ⟨i2, ji, jz0, jz1, jz2⟩ := info_parts info3
  have H := hid h
  clear h
  go_enter Try.func34, Try.ntmps34
  go_wp2
  clear hmk
  have HR0 := hid (R3.start (w.alloc (.cells #[.pointer (some ⟨cB, 0, none⟩)] 67)) ag.n D)
  simp only [World.size_alloc] at HR0
  have HW1 : Hid (Below w.heap.size w ((w.alloc (.cells #[.pointer (some ⟨cB, 0, none⟩)] 67)).alloc (.cells (madeCells #[.slice none 0 0] ag.n) 24))) := ((Below.refl _ _).alloc (Nat.le_refl _) _).alloc (by simp) _
  have HX1 : Hid (((w.alloc (.cells #[.pointer (some ⟨cB, 0, none⟩)] 67)).alloc (.cells (madeCells #[.slice none 0 0] ag.n) 24)).cell? ⟨w.heap.size, 0, none⟩ = some (.pointer (some ⟨cB, 0, none⟩))) := by
    unfold Hid; rw [World.cell?_alloc_past _ _ _ (by simp), World.cell?_alloc_at _ _ _ _ rfl]; rfl
  generalize hW1 : (w.alloc (.cells #[.pointer (some ⟨cB, 0, none⟩)] 67)).alloc (.cells (madeCells #[.slice none 0 0] ag.n) 24) = W1 at HR0 HW1 HX1 ⊢
  clear hW1
  go_loopw [31] (fun i wr => ∃ (k : Nat) (ts : Nat → Option Addr) (tc : Nat → Nat), k ≤ tm.n ∧ i = .int .i64 k ∧ R3 W1 (w.heap.size + 1) ag.n (tj D k 0) ts tc wr) (fun i _ => tm.n - (intOf i).toNat)
  case atStart => exact ⟨0, _, _, Nat.zero_le _, rfl, HR0.out⟩
  case round =>
    obtain ⟨k, ts, tc, hk, rfl, hR⟩ := hrel
    by_cases hlt : k < tm.n
    · have hkK : k < D.K := by rw [← ET.out]; exact hlt
      have hB := hid (HW1.out.grown hR.bel HW1.out.size (fun g e => by cases e; omega))
      have hC := hid (H.out.comp.below hB.out)
      have hix := idx76 hC.out.tms k hlt
      have hck := hC.out.tms.cell hlt
      have hnmd := (hC.out.t k hkK).named
      have hyl := (hC.out.t k hkK).row.has.len
      have EY := hid (hC.out.t k hkK).len
      have HR := hid hR
      clear hR
      go_wp2
      go_loopw [41] (fun i wr => ∃ (j : Nat) (ts : Nat → Option Addr) (tc : Nat → Nat), j ≤ (Y k).n ∧ i = .int .i64 j ∧ R3 W1 (w.heap.size + 1) ag.n (tj D k j) ts tc wr) (fun i _ => (Y k).n - (intOf i).toNat)
      case atStart => exact ⟨0, ts, tc, Nat.zero_le _, rfl, HR.out⟩
      case round =>
        obtain ⟨j, ts, tc, hj, rfl, hR⟩ := hrel
        by_cases hjt : j < (Y k).n
        · have hjn : j < D.nm k := by rw [← EY.out]; exact hjt
          have hB2 := hid (HW1.out.grown hR.bel HW1.out.size (fun g e => by cases e; omega))
          have hC2 := hid (H.out.comp.below hB2.out)
          have hix2 := idx24 (hC2.out.t k hkK).row.has j hjt
          have hcj := (hC2.out.t k hkK).row.has.cell hjt
          obtain ⟨z1, z2⟩ := H.out.Z k hkK j hjn
          obtain ⟨i, hi⟩ := Int.eq_ofNat_of_zero_le z1
          have HZI := hid hi
          rw [hi] at hcj z2
          clear z1 hi
          have hin : i < ag.n := by rw [EA.out]; omega
          have hrow := hR.outer.cell hin
          have hlt2 := hR.outer.lt
          have hlen := tj_len D k j i (by omega) (by omega) fun x hx => H.out.nm x (by omega)
          have HR := hid hR
          have HSE := hid (tj_step D k j i HZI.out)
          have hbB := hR.bel.size
          have hsz := hR.sz
          clear hR
          go_wp2_with (at_builtin; refine wpList_append_new _ rfl (.tmp 50) (.tmp 52) 24 rfl (w.heap.size + 1 + 1) 3 i2 (.int .i64 0) 1 8 Try.underlying24 ji jz0 jz1 jz2 rfl (by decide) (.slice (ts i) (tj D k j i).length (tc i)) (tj D k j i).length (ints (tj D k j i)) ?pv ?po (some ⟨wr.heap.size, 0, none⟩) ⟨wr.heap.size, 0, none⟩ 1 1 [.int .i64 (k : Int)] rfl rfl rfl ?p1 ?p2 ?p3 ?p4 ?p5 ?_)
          case pv => rfl
          case po => exact (HR.out.rows i hin).alloc _
          case p1 =>
            intro j u hj
            match j, hj with
            | 0, hj => simp at hj; subst hj; simp [Addr.add]
          case p2 => intro u hu; simp at hu; subst hu; rfl
          case p3 => unfold maxLen; omega
          case p4 => omega
          case p5 => simp; omega
          intro s' c' w2 hown hg hnew
          have ho2 : w2.rowIs (w.heap.size + 1) 24 ag.n _ := (HR.out.outer.alloc _).of_block (hg.block _ (by simp; omega) (fun e => by have := ((HR.out.rows i hin).lt _ e.symm).1; omega))
          have hc2 := ho2.cell hin
          have hf2 := ho2.frozen i
          have HN := hid (HR.out.next hin hown hg hnew)
          rw [HSE.out] at HN
          clear hown hg hnew ho2 hrow
          go_wp2
          go_roundw
          case rel => exact ⟨j + 1, _, _, by omega, by go_num, HN.out⟩
          case measure => simp [intOf]; omega
        · have hje : j = D.nm k := by rw [← EY.out]; omega
          rw [hje, tj_next] at hR
          have HR := hid hR
          clear hR hje
          go_wp2
          go_roundw
          case rel => exact ⟨k + 1, _, _, by omega, by go_num, HR.out⟩
          case measure => simp [intOf]; omega
    · have hke : k = D.K := by rw [← ET.out]; omega
      have HR : Hid (R3 W1 (w.heap.size + 1) ag.n (tl D D.K) ts tc wr) := by
        unfold Hid
        have : tj D k 0 = tl D D.K := by funext i; rw [hke, tj_end]
        rw [← this]
        exact hR
      have hB := hid (HW1.out.grown hR.bel HW1.out.size (fun g e => by cases e; omega))
      have hC := hid (H.out.comp.below hB.out)
      have hbox : wr.cell? ⟨w.heap.size, 0, none⟩ = some (.pointer (some ⟨cB, 0, none⟩)) := by
        have hz := hR.sz
        rw [World.cell?_of_block (a := ⟨w.heap.size, 0, none⟩) (hR.bel.block w.heap.size (by omega) (fun e => by have := Option.some.inj e; omega))]
        exact HX1.out
      have hc4' := hC.out.c4
      have hc6' := hC.out.c6
      have hmk2 := run_make_row' (P := Try.prog) 24 3 (.int .i64 0) 8 Try.underlying24 info3 rfl .i64 .i64 ag.n (by omega) (by omega)
      have hcl2 : cB < wr.heap.size := Nat.lt_of_lt_of_le hcl hB.out.size
      have hbx2 : w.heap.size < wr.heap.size := block_lt (a := ⟨w.heap.size, 0, none⟩) hbox
      clear hR hke
      go_wp2
      clear hmk2
      have HE3 : Hid (Env (wr.alloc (.cells (madeCells #[.int .i64 0] ag.n) 3)) w.heap.size cB D ag tm A T Tm Y) := Env.below ⟨hbox, hC.out⟩ ((Below.refl _ _).alloc (Nat.le_refl _) _)
      have HR4 : Hid (R4 (wr.alloc (.cells (madeCells #[.int .i64 0] ag.n) 3)) wr.heap.size ag.n (dept D) 0 (wr.alloc (.cells (madeCells #[.int .i64 0] ag.n) 3))) := ⟨(World.rowIs_made _ _ _ _).congr fun j _ => by simp, World.grownBy.refl _ _, by simp⟩
      have HB3 : Hid (Below w.heap.size w (wr.alloc (.cells (madeCells #[.int .i64 0] ag.n) 3))) := hB.out.alloc hB.out.size _
      have HTN : Hid (∀ i, i < ag.n → (Value.slice (ts i) (named D i).length (tc i)).ownBlock ≠ some wr.heap.size) := fun i hi e => by
        have := ((HR.out.rows i hi).lt _ e).2; omega
      have HT3 : Hid ((wr.alloc (.cells (madeCells #[.int .i64 0] ag.n) 3)).rowIs (w.heap.size + 1) 24 ag.n (fun i => .slice (ts i) (named D i).length (tc i)) ∧ ∀ i, i < ag.n → (wr.alloc (.cells (madeCells #[.int .i64 0] ag.n) 3)).ownsRow (w.heap.size + 1 + 1) 3 1 (.slice (ts i) (named D i).length (tc i)) (named D i).length (ints (named D i))) :=
        ⟨HR.out.outer.alloc _, fun i hi => (HR.out.rows i hi).alloc _⟩
      have hszt := HR.out.outer.lt
      have HSZ : Hid (wr.heap.size < (wr.alloc (.cells (madeCells #[.int .i64 0] ag.n) 3)).heap.size) := by unfold Hid; simp
      clear hbox hc4' hc6' hC hB HR
      generalize hW3 : wr.alloc (.cells (madeCells #[.int .i64 0] ag.n) 3) = W3 at HE3 HR4 HB3 HT3 HSZ ⊢
      generalize hdB : wr.heap.size = dB at HR4 HSZ HTN hbx2 hcl2 hszt ⊢
      clear hW3 hdB
      clear wr
      go_loopw [69] (fun i wr => ∃ i' : Nat, i' ≤ ag.n ∧ i = .int .i64 i' ∧ R4 W3 dB ag.n (dept D) i' wr) (fun i _ => ag.n - (intOf i).toNat)
      case atStart => exact ⟨0, Nat.zero_le _, rfl, HR4.out⟩
      case round =>
        obtain ⟨i, hi, rfl, hR⟩ := hrel
        have hBw := hid (HB3.out.grown hR.bel HB3.out.size (fun g e => by cases e; omega))
        have hEw : Env wr w.heap.size cB D ag tm A T Tm Y := ⟨by
          rw [World.cell?_of_block (a := ⟨w.heap.size, 0, none⟩) (hR.bel.block w.heap.size (by have := HSZ.out; omega) (fun e => by have := Option.some.inj e; omega))]
          exact HE3.out.box, H.out.comp.below hBw.out⟩
        by_cases hlt : i < ag.n
        · have hiD : i < D.n := by rw [← EA.out]; exact hlt
          have hix := idx75 hEw.comp.ags i hlt
          have hca := hEw.comp.ags.cell hlt
          have hab := hEw.comp.ags.blk hlt
          have hdr := hR.row.cell hlt
          rw [if_neg (Nat.lt_irrefl i)] at hdr
          have hdf := hR.row.frozen i
          have hdl := hR.row.lt
          have htr : wr.rowIs (w.heap.size + 1) 24 ag.n (fun i => .slice (ts i) (named D i).length (tc i)) := HT3.out.1.of_block (hR.bel.block _ HT3.out.1.lt (fun e => by have := Option.some.inj e; omega))
          have htc := htr.cell hlt
          have htl := htr.lt
          have HR := hid hR
          have HEw := hid hEw
          have hne1 : w.heap.size + 1 ≠ dB := by omega
          have htr2 := ((htr.setOther (a := ⟨dB, i, none⟩) (show w.heap.size + 1 ≠ dB from hne1) (.int .i64 (-1))).alloc (.cells #[.int .i64 (i : Int)] 3)).alloc (.cells #[.pointer (some ⟨A i, 0, none⟩)] 86)
          have htc' := htr2.cell hlt
          have HTR := hid htr2
          clear htr2
          by_cases ht0 : (named D i).length = 0
          · have HD : Hid (dept D i = -1) := by unfold Hid dept; rw [if_pos ht0]
            have HM := hid (hR.mid (-1) (.cells #[.int .i64 (i : Int)] 3) (.cells #[.pointer (some ⟨A i, 0, none⟩)] 86))
            have ht0' : (((named D i).length : Int) == 0) = true := by rw [beq_iff_eq]; omega
            clear hR hEw ht0
            go_wp2
            go_roundw
            case rel => exact ⟨i + 1, by omega, by go_num, HM.out.ends HD.out.symm⟩
            case measure => simp [intOf]; omega
          · have hnl : (named D i).length ≤ D.K * 1048576 := named_len D i H.out.nm
            obtain ⟨y, hyn, e1, e2, hRd⟩ := Rd.start hR H.out.comp hBw.out hEw.box htr rfl ((HT3.out.2 i hlt).kept hR.bel (Or.inr (HTN.out i hlt))) (HTN.out i hlt) (by omega) hlt (by omega) (by omega)
            rw [e1, e2, ← hyn] at htc'
            have ht0' : ((y.n : Int) == 0) = false := by rw [hyn, beq_eq_false_iff_ne]; omega
            have h0 : 0 < y.n := by omega
            have hyl : y.n ≤ 4398046511104 := by omega
            have HYN := hid hyn
            have HRd := hid hRd
            have hzK : ∀ j, j < y.n → zl (named D i) j < D.K := fun j hj => named_lt D i _ (zl_mem (by omega))
            have HCL := hid (clone_any y _ _ hRd.has h0 hyl)
            clear hR hEw ht0 hRd e1 e2 htc htr hyn
            have HMZ : Hid (∀ j, j < y.n → zl (named D i) j < D.K) := hzK
            clear hzK
            go_wp2_with (go_at_call 43; refine HCL.out.mono ?_; rintro e W1 ⟨g, c, f, rfl, hrow, hf, hnc, hg, hb⟩)
            refine (HRd.out.del44 HYN.out h0 hyl HMZ.out hb hrow hf hnc hg).mono ?_
            clear hrow hf hnc hg hb HCL HTR htc' htl hix hca hab hdr hdf hdl
            rintro e W2 ⟨y2, hn2, rfl, hy2, hb2⟩
            have HRd2 := hid (HRd.out.below hb2)
            clear HRd hb2
            generalize hbi : wr.heap.size = bi at HRd2 ⊢
            clear hbi hBw HEw HR
            clear wr
            have hbx := HRd2.out.box
            have hdr := HRd2.out.mid.row.cell hlt
            have hdf := HRd2.out.mid.row.frozen i
            have hdl := HRd2.out.mid.row.lt
            have hl2 := hy2.len
            by_cases hm : 0 < y2.n
            · have hm' : ((y2.n : Int) > 0) := by omega
              have HU : Hid (((mnL D (managed D i) : Nat) : Int) = dept D i) := by
                unfold Hid dept; rw [if_neg (by have := HYN.out; omega), if_pos (by omega)]
              have HF := hid fun q => HRd2.out.first y2 (managed D i) hy2 hn2 hm (fun k hk => named_lt D i k (List.mem_filter.1 hk).1) q
              have HD := hid fun q => HRd2.out.done q _ HU.out
              clear hy2 hn2
              go_upto_region 20 with fail
              go_region_with (go_at_call 38; refine (HF.out 1).mono ?_; rintro e w' ⟨rfl, q', rfl⟩)
              all_goals (go_wp2; go_roundw; (case rel => exact ⟨i + 1, by omega, by go_num, HD.out _⟩); (case measure => simp [intOf]; omega))
            · have hm0 : y2.n = 0 := by omega
              have HM0 : Hid ((managed D i).length = 0) := by unfold Hid; omega
              have htc := HRd2.out.tcell
              have HCL := hid (clone_any y _ _ HRd2.out.has h0 hyl)
              clear hy2 hn2
              go_wp2_with (go_at_call 43; refine HCL.out.mono ?_; rintro e W1 ⟨g, c, f, rfl, hrow, hf, hnc, hg, hb⟩)
              refine (HRd2.out.del45 HYN.out h0 hyl HMZ.out hiD H.out.M hb hrow hf hnc hg).mono ?_
              clear hrow hf hnc hg hb HCL htc hdr hdf hdl hbx
              rintro e W4 ⟨y4, hn4, rfl, hy4, hb4⟩
              have HRd4 := hid (HRd2.out.below hb4)
              clear HRd2 hb4
              have hbx := HRd4.out.box
              have htc := HRd4.out.tcell
              have hdr := HRd4.out.mid.row.cell hlt
              have hdf := HRd4.out.mid.row.frozen i
              have hdl := HRd4.out.mid.row.lt
              have hl4 := hy4.len
              by_cases hu : y4.n = 0
              · have HU : Hid (((mnL D (named D i) : Nat) : Int) = dept D i) := by
                  unfold Hid dept; rw [if_neg (by have := HYN.out; omega), if_neg (by have := HM0.out; omega), if_pos (by omega)]
                have HF := hid fun q => HRd4.out.first y (named D i) HRd4.out.has HYN.out h0 (fun k hk => named_lt D i k hk) q
                have HD := hid fun q => HRd4.out.done q _ HU.out
                have hu' : ((y4.n : Int) == 0) = true := by rw [beq_iff_eq]; omega
                clear hy4 hn4 hu
                go_upto_region 24 with fail
                go_region_with (go_at_call 38; refine (HF.out 1).mono ?_; rintro e w' ⟨rfl, q', rfl⟩)
                all_goals (go_wp2; go_roundw; (case rel => exact ⟨i + 1, by omega, by go_num, HD.out _⟩); (case measure => simp [intOf]; omega))
              · have HU : Hid (((mnL D (underM D i) : Nat) : Int) = dept D i) := by
                  unfold Hid dept; rw [if_neg (by have := HYN.out; omega), if_neg (by have := HM0.out; omega), if_neg (by omega)]
                have HF := hid fun q => HRd4.out.first y4 (underM D i) hy4 hn4 (by omega) (fun k hk => named_lt D i k (List.mem_filter.1 hk).1) q
                have HD := hid fun q => HRd4.out.done q _ HU.out
                have hu' : ((y4.n : Int) == 0) = false := by rw [beq_eq_false_iff_ne]; omega
                clear hy4 hn4
                go_upto_region 24 with fail
                go_region_with (go_at_call 38; refine (HF.out 1).mono ?_; rintro e w' ⟨rfl, q', rfl⟩)
                all_goals (go_wp2; go_roundw; (case rel => exact ⟨i + 1, by omega, by go_num, HD.out _⟩); (case measure => simp [intOf]; omega))
        · have hin : i = ag.n := by omega
          subst hin
          have HE4 := hid hEw
          have HD4 : Hid (wr.rowIs dB 3 ag.n fun j => .int .i64 (dept D j)) := hR.row.congr fun j hj => by rw [if_pos hj]
          have HRD : Hid (wr.rowIs rB 65 6 rf) := H.out.rd.of_block (hBw.out.block _ H.out.rd.lt)
          have HB4 := hid hBw.out
          have hb4 := hEw.box
          have hc46 := hEw.comp.c6
          have hbl4 := block_lt (a := ⟨w.heap.size, 0, none⟩) hb4
          have hrl := H.out.rd.lt
          clear hR hEw hBw
          generalize hW4 : wr = W4 at HE4 HD4 HRD HB4 hb4 hc46 hbl4 ⊢
          clear hW4
          clear wr
          go_wp2
          go_loopw [125] (fun i wr => ∃ (k : Nat) (s : Option Addr) (c : Nat), k ≤ tm.n ∧ i = .int .i64 k ∧ R5 W4 rB rf D (dj D k 0) s c wr) (fun i _ => tm.n - (intOf i).toNat)
          case atStart => exact ⟨0, none, 0, Nat.zero_le _, rfl, R5.start D HRD.out H.out.rd4⟩
          case round =>
            obtain ⟨k, s, c, hk, rfl, hR⟩ := hrel
            by_cases hlt : k < tm.n
            · have hkK : k < D.K := by rw [← ET.out]; exact hlt
              have hC := hid (HE4.out.comp.turned H.out.above fun b h1 h2 => hR.bel.block b h2 (fun e => by have := Option.some.inj e; omega))
              have hix := idx76 hC.out.tms k hlt
              have hck := hC.out.tms.cell hlt
              have hnmd := (hC.out.t k hkK).named
              have hyl := (hC.out.t k hkK).row.has.len
              have EY := hid (hC.out.t k hkK).len
              have HR := hid hR
              clear hR
              go_wp2
              go_loopw [135] (fun i wr => ∃ (j : Nat) (s : Option Addr) (c : Nat), j ≤ (Y k).n ∧ i = .int .i64 j ∧ R5 W4 rB rf D (dj D k j) s c wr) (fun i _ => (Y k).n - (intOf i).toNat)
              case atStart => exact ⟨0, s, c, Nat.zero_le _, rfl, HR.out⟩
              case round =>
                obtain ⟨j, s, c, hj, rfl, hR⟩ := hrel
                by_cases hjt : j < (Y k).n
                · have hjn : j < D.nm k := by rw [← EY.out]; exact hjt
                  have hC2 := hid (HE4.out.comp.turned H.out.above fun b h1 h2 => hR.bel.block b h2 (fun e => by have := Option.some.inj e; omega))
                  have hix2 := idx24 (hC2.out.t k hkK).row.has j hjt
                  have hcj := (hC2.out.t k hkK).row.has.cell hjt
                  obtain ⟨z1, z2⟩ := H.out.Z k hkK j hjn
                  obtain ⟨i, hi⟩ := Int.eq_ofNat_of_zero_le z1
                  have HZI := hid hi
                  rw [hi] at hcj z2
                  have HZN : Hid ((D.Z k j).toNat = i) := by unfold Hid; rw [hi]; rfl
                  clear z1 hi
                  have hin : i < ag.n := by rw [EA.out]; omega
                  have hiD : i < D.n := by omega
                  have hd5 : wr.rowIs dB 3 ag.n fun j => .int .i64 (dept D j) := HD4.out.of_block (hR.bel.block _ HD4.out.lt (fun e => by have := Option.some.inj e; omega))
                  have hdc := hd5.cell hin
                  have HR := hid hR
                  by_cases haw : away D k j = true
                  · have haw' : (dept D i != (k : Int)) = true := by unfold away at haw; rw [HZN.out] at haw; exact haw
                    have HN := hid fun q => hR.note haw (dj_len D k j (by omega) (by omega) fun x hx => H.out.nm x (by omega)) q
                    rw [HZN.out] at HN
                    have hbx : wr.cell? ⟨w.heap.size, 0, none⟩ = some (.pointer (some ⟨cB, 0, none⟩)) := hR.bel.cell hb4 (fun e => by have := Option.some.inj e; simp at this; omega)
                    have hfl := (hC2.out.t k hkK).file
                    have hc4' := hC2.out.c4
                    have hixa := idx75 hC2.out.ags i hin
                    have hca := hC2.out.ags.cell hin
                    have hsl := (hC2.out.a i hiD).slug
                    clear hR haw
                    go_upto_region 33 with fail
                    go_region_with (go_at_call 46; refine (HN.out 1).mono ?_; rintro e w' ⟨rfl, s', c', hR'⟩)
                    all_goals (go_wp2; go_roundw; (case rel => exact ⟨j + 1, s', c', by omega, by go_num, hR'⟩); (case measure => simp [intOf]; omega))
                  · have haw0 : away D k j = false := by simpa using haw
                    have haw' : (dept D i != (k : Int)) = false := by unfold away at haw0; rw [HZN.out] at haw0; exact haw0
                    have HN := hid (hR.skip haw0)
                    clear hR haw haw0
                    go_wp2
                    go_roundw
                    case rel => exact ⟨j + 1, s, c, by omega, by go_num, HN.out⟩
                    case measure => simp [intOf]; omega
                · have hje : j = D.nm k := by rw [← EY.out]; omega
                  rw [hje, dj_next] at hR
                  have HR := hid hR
                  clear hR hje
                  go_wp2
                  go_roundw
                  case rel => exact ⟨k + 1, s, c, by omega, by go_num, HR.out⟩
                  case measure => simp [intOf]; omega
            · have hke : k = D.K := by rw [← ET.out]; omega
              subst hke
              rw [dj_end] at hR
              have HP : Hid (PlaceP w rB rf D (.returned (.slice (some ⟨dB, 0, none⟩) ag.n ag.n)) wr) := by
                refine ⟨dB, s, c, W4.heap.size, by rw [EA.out], by omega, HB4.out.size, ?_, hR.rd, hR.own, ⟨hR.bel.os.trans HB4.out.os, hR.bel.tape.trans HB4.out.tape, hR.bel.output.trans HB4.out.output, Nat.le_trans HB4.out.size hR.bel.size, fun b hb hne => ?_⟩⟩
                · rw [← EA.out]
                  exact HD4.out.of_block (hR.bel.block _ HD4.out.lt (fun e => by have := Option.some.inj e; omega))
                · rw [hR.bel.block b (Nat.lt_of_lt_of_le hb HB4.out.size) hne]; exact HB4.out.block b hb
              clear hR
              go_wp2
              go_ret
              exact HP.out
end Go.Proofs.Qxb6601102a
