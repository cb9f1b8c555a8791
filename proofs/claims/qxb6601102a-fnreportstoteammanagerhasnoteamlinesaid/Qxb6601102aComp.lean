/-
  THE WALKS, F: zzCompanyB1, walked.
-/
import Derived.Test.Qxb6601102aCompB
namespace Go.Proofs.Qxb6601102a
open Go.RowKit
theorem info86 : (Try.prog.info? 86).map (fun i => (i.zero, i.size, i.bytes)) = some (some (.pointer none), 1, 8) := by kernel_rfl
theorem info79 : (Try.prog.info? 79).map (fun i => (i.zero, i.size, i.bytes)) = some (some (.pointer none), 1, 8) := by kernel_rfl

theorem cell_a2 (w : World) (C : Array Value) (t : TypeId) (o o2 : Obj) (i : Nat) : (((w.alloc (.cells C t)).alloc o).alloc o2).cell? ⟨w.heap.size, i, none⟩ = C[i]? := by
  rw [World.cell?_alloc_past _ _ _ (by simp; omega), World.cell?_alloc_past _ _ _ (by simp), World.cell?_alloc_at _ _ _ _ rfl]
theorem cell_b2 (w : World) (C : Array Value) (t : TypeId) (o o2 : Obj) (i : Nat) : (((w.alloc o).alloc (.cells C t)).alloc o2).cell? ⟨w.heap.size + 1, i, none⟩ = C[i]? := by
  rw [World.cell?_alloc_past _ _ _ (by simp), World.cell?_alloc_at _ _ _ _ (by simp)]
theorem cell_c2 (w : World) (C : Array Value) (t : TypeId) (o o2 : Obj) (i : Nat) : (((w.alloc o).alloc o2).alloc (.cells C t)).cell? ⟨w.heap.size + 2, i, none⟩ = C[i]? := by
  rw [World.cell?_alloc_at _ _ _ _ (by simp)]

theorem wpList_append_empty {P : Program} (w : World) {ops : Array Oper} {rest : List Oper} {o : Oper} {a : Act} {Q : Exit → Act → World → Prop} (hgd : o.guard = none) (s x : Operand) (t : TypeId)
    (ho : o.op = .call { callee := .builtin .append, args := #[s, x], argTypes := #[t, t] })
    (e : TypeId) (i : TypeInfo) (ht : P.underlying t = some (.slice e)) (hi : P.info? e = some i)
    (hs : a.eval s = .slice none 0 0) (ao : Option Addr) (m c : Nat) (hx : a.eval x = .slice ao m c) (hm : m = 0)
    (h : wpList P ops Q rest (a.put o.dst (.slice none 0 0)) w) : wpList P ops Q (o :: rest) a w := by
  subst hm
  have hr := run_append_empty (P := P) w t o.type e i ht hi ao c
  refine wpList_plain hgd fun _ hK => ?_
  unfold Oper.wp execOp
  simp only [ho, resolve, invoke, builtin, Sem.run_bind, Sem.run_pure, Result.andThen_ok, List.map_toArray, List.map_cons, List.map_nil, hs, hx, hr]
  exact hK _ _ h

/-- A team's six cells. -/
def tCells (f i : ByteArray) (m : Int) (n : Value) (j : Nat) : Value := if j = 0 then .string f else if j = 1 then .string i else if j = 3 then .int .i64 m else if j = 4 then n else if j = 5 then .map none else .string ByteArray.empty
theorem team_new (w : World) (f i : ByteArray) (m : Int) : (w.alloc (.cells #[.string f, .string i, .string ⟨#[]⟩, .int .i64 m, .slice none 0 0, .map none] 82)).rowIs w.heap.size 82 6 (tCells f i m (.slice none 0 0)) :=
  World.rowIs_alloc _ _ _ _ fun i hi => by
    match i, hi with
    | 0, _ => rfl
    | 1, _ => rfl
    | 2, _ => rfl
    | 3, _ => rfl
    | 4, _ => rfl
    | 5, _ => rfl

theorem team_step {wr w1 : World} {f i : ByteArray} {m : Int} {s3 : Option Addr} {n c3 : Nat} {Z : Nat → Int} (hb : ∀ i, i < n → -9223372036854775808 ≤ Z i ∧ Z i ≤ 9223372036854775807)
    (hown : w1.ownsRow (wr.heap.size + 1) 3 1 (.slice s3 n c3) n ((List.range n).map fun i => .int .i64 (Z i)))
    (hg : (wr.alloc (.cells #[.string f, .string i, .string ⟨#[]⟩, .int .i64 m, .slice none 0 0, .map none] 82)).grownBy w1 none) (o : Obj) :
    Below wr.heap.size wr ((w1.setCell ⟨wr.heap.size, 4, none⟩ (.slice s3 n c3)).alloc o) ∧
    TmAt ((w1.setCell ⟨wr.heap.size, 4, none⟩ (.slice s3 n c3)).alloc o) wr.heap.size ⟨s3, n, c3, (s3.getD ⟨0, 0, none⟩).block, 0⟩ f i m n Z ∧
    (0 < n → wr.heap.size ≤ (s3.getD ⟨0, 0, none⟩).block) := by
  have hs := hg.size
  rw [World.size_alloc] at hs
  have ht : w1.rowIs wr.heap.size 82 6 (tCells f i m (.slice none 0 0)) := (team_new wr f i m).of_block (hg.block _ (by simp) (fun e => by cases e))
  have ht2 : ((w1.setCell ⟨wr.heap.size, 4, none⟩ (.slice s3 n c3)).alloc o).rowIs wr.heap.size 82 6 (tCells f i m (.slice s3 n c3)) :=
    ((ht.set 4 _).congr fun j _ => by
      unfold tCells
      by_cases e : j = 4
      · simp [e]
      · simp [e]).alloc o
  have hh := owns_has hown
  have hbl : 0 < n → (s3.getD ⟨0, 0, none⟩).block ≠ wr.heap.size ∧ (s3.getD ⟨0, 0, none⟩).block < w1.heap.size ∧ wr.heap.size ≤ (s3.getD ⟨0, 0, none⟩).block := by
    intro h0
    have e := (hh.row 0 h0).1
    have e' : s3 = some ⟨(s3.getD ⟨0, 0, none⟩).block, 0, none⟩ := e
    have := hown.lt (s3.getD ⟨0, 0, none⟩).block (by rw [e']; rfl)
    omega
  refine ⟨?_, ⟨ht2.cell (i := 0) (by omega), ht2.cell (i := 1) (by omega), ht2.cell (i := 3) (by omega), ht2.cell (i := 4) (by omega), ⟨hh.of_block fun h0 => ?_, hb⟩, rfl⟩, fun h0 => (hbl h0).2.2⟩
  · refine Below.alloc (Below.setCell (Below.grown ((Below.refl _ _).alloc (Nat.le_refl _) _) hg (by simp) (fun k e => by cases e)) (Nat.le_refl _) _) ?_ _
    show wr.heap.size ≤ (w1.setCell ⟨wr.heap.size, 4, none⟩ (.slice s3 n c3)).heap.size
    simp [World.setCell]
    omega
  · have h0 : 0 < n := h0
    have := hbl h0
    show ((w1.setCell ⟨wr.heap.size, 4, none⟩ (.slice s3 n c3)).alloc o).heap[(s3.getD ⟨0, 0, none⟩).block]? = w1.heap[(s3.getD ⟨0, 0, none⟩).block]?
    rw [Below.heap_alloc _ _ _ (by simp [World.setCell]; omega), Below.heap_setCell _ _ _ _ (by show _ ≠ wr.heap.size; omega)]

def CompP (w : World) (D : Dat) (e : Ending) (w' : World) : Prop := e = .returned (.pointer (some ⟨w.heap.size, 0, none⟩)) ∧ Below w.heap.size w w' ∧ ∃ ag tm A T Tm Y, Comp w' w.heap.size D ag tm A T Tm Y ∧ Above w.heap.size D w.heap.size ag tm A T Tm Y

theorem comp_done {w W0 wr : World} {D : Dat} {s1 : Option Addr} {c1 : Nat} {A T : Nat → Nat} {s2 : Option Addr} {c2 : Nat} {Tm : Nat → Nat} {Y : Nat → Sl}
    (h1 : R1 w D.slug D.given D.hr D.rep D.n s1 c1 A T W0) (h2 : R2 W0 w.heap.size (.slice s1 D.n c1) D.tf D.ti D.M D.nm D.Z D.K s2 c2 Tm Y wr) : CompP w D (.returned (.pointer (some ⟨w.heap.size, 0, none⟩))) wr := by
  have hcl := h1.comp.lt
  refine ⟨rfl, ?_, ⟨s1, D.n, c1, (s1.getD ⟨0, 0, none⟩).block, 0⟩, ⟨s2, D.K, c2, (s2.getD ⟨0, 0, none⟩).block, 0⟩, A, T, Tm, Y, ⟨h2.comp.cell (i := 4) (by omega), h2.comp.cell (i := 6) (by omega), rfl, rfl, ?_, owns_has h2.own, ?_, fun j hj => (h2.tm j hj).1⟩, ⟨Nat.le_refl _, fun h0 => Nat.le_of_succ_le (owns_above h1.own h0), fun h0 => Nat.le_trans (Nat.le_of_lt hcl) (owns_above h2.own h0), fun j hj => ?_, fun j hj => ?_⟩⟩
  · exact h1.bel.grown h2.bel (Nat.le_of_lt hcl) (fun g e => by cases e; exact Nat.le_refl _)
  · refine owns_has (h1.own.kept h2.bel ?_)
    right
    intro e
    have := (h1.own.lt _ e).1
    omega
  · intro j hj
    obtain ⟨g1, g2, g3, g4, _⟩ := h1.ag j hj
    exact g1.moved (h2.bel.block _ g1.lt (fun e => by have := Option.some.inj e; omega)) (h2.bel.block _ g4 (fun e => by have := Option.some.inj e; omega))
  · obtain ⟨g1, g2, g3, g4, _⟩ := h1.ag j hj
    exact ⟨by omega, by omega⟩
  · obtain ⟨g1, g2, g3, g4⟩ := h2.tm j hj
    exact ⟨by omega, fun h0 => by have := (g4 h0).1; omega⟩

set_option maxRecDepth 100000 in
set_option maxHeartbeats 2000000 in
theorem comp_any (D : Dat) (x1 x2 x3 x4 x5 x6 x7 x8 : Sl) (R : Nat → Sl) (w : World)
    (h1 : Strs w x1 D.slug) (e1 : x1.n = D.n) (h2 : (x2.n = 0 ∧ ∀ i, D.given i = false) ∨ (x2.n = x1.n ∧ Bools w x2 D.given)) (h3 : Bools w x3 D.hr) (e3 : x3.n = x1.n) (h4 : Strs w x4 D.rep) (e4 : x4.n = x1.n) (hn : x1.n ≤ 4096)
    (h5 : Strs w x5 D.tf) (e5 : x5.n = x7.n) (h6 : Strs w x6 D.ti) (e6 : x6.n = x7.n) (h7 : Ints w x7 D.M) (e7 : x7.n = D.K) (h8 : Intss w x8 R D.Z) (e8 : x8.n = x7.n) (hK : x7.n ≤ 4096) (hrn : ∀ k, k < x7.n → (R k).n = D.nm k ∧ (R k).n ≤ 1048576) :
    Calls Try.prog 35 #[.slice none 0 0, .slice x1.s x1.n x1.c, .slice x2.s x2.n x2.c, .slice x3.s x3.n x3.c, .slice x4.s x4.n x4.c, .slice x5.s x5.n x5.c, .slice x6.s x6.n x6.c, .slice x7.s x7.n x7.c, .slice x8.s x8.n x8.c] w (CompP w D) := by
  have H2 := hid h2
  have E1 := hid e1
  have E3 := hid e3
  have E4 := hid e4
  have E5 := hid e5
  have E6 := hid e6
  have E7 := hid e7
  have E8 := hid e8
  have HRN := hid hrn
  clear h2 e1 e3 e4 e5 e6 e7 e8 hrn
  obtain ⟨i0, hi, hz0, hz1, hz2⟩ := info_parts info86
  go_enter Try.func35, Try.ntmps35
  go_wp2
  go_loopw [20] (fun i wr => ∃ (k : Nat) (s : Option Addr) (c : Nat) (A T : Nat → Nat), k ≤ x1.n ∧ i = .int .i64 k ∧ R1 w D.slug D.given D.hr D.rep k s c A T wr) (fun i _ => x1.n - (intOf i).toNat)
  case atStart =>
    refine ⟨0, none, 0, fun _ => 0, fun _ => 0, Nat.zero_le _, rfl, ⟨World.rowIs_alloc _ _ _ _ fun i hi => ?_, World.ownsRow_nil _ _ _ _, fun j h => absurd h (Nat.not_lt_zero j), (Below.refl _ _).alloc (Nat.le_refl _) _⟩⟩
    match i, hi with
    | 0, _ => rfl
    | 1, _ => rfl
    | 2, _ => rfl
    | 3, _ => rfl
    | 4, _ => rfl
    | 5, _ => rfl
    | 6, _ => rfl
  case round =>
    obtain ⟨k, s, c, A, T, hk, rfl, hR⟩ := hrel
    by_cases hlt : k < x1.n
    · have hix := idx22 h1.has k hlt
      have hc := (hR.bel.cell (p := ⟨x1.b, x1.off + k, none⟩) (h1.has.blk hlt)).trans (h1.has.cell hlt)
      have hx3 : k < x3.n := by rw [E3.out]; exact hlt
      have hix3 := idx23 h3.has k hx3
      have hc3 := (hR.bel.cell (p := ⟨x3.b, x3.off + k, none⟩) (h3.has.blk hx3)).trans (h3.has.cell hx3)
      have hx4 : k < x4.n := by rw [E4.out]; exact hlt
      have hix4 := idx22 h4.has k hx4
      have hb1 : x1.b < wr.heap.size := Nat.lt_of_lt_of_le (h1.has.blk hlt) hR.bel.size
      have hb3 : x3.b < wr.heap.size := Nat.lt_of_lt_of_le (h3.has.blk hx3) hR.bel.size
      have hb4 : x4.b < wr.heap.size := Nat.lt_of_lt_of_le (h4.has.blk hx4) hR.bel.size
      have hc4 := (hR.bel.cell (p := ⟨x4.b, x4.off + k, none⟩) (h4.has.blk hx4)).trans (h4.has.cell hx4)
      have hcc : wr.cell? ⟨w.heap.size, 4, none⟩ = some (.slice s k c) := hR.comp.cell (i := 4) (by omega)
      have hcl := hR.comp.lt
      have hfz := hR.comp.frozen 4
      have HR := hid hR
      rcases H2.out with ⟨g0, g1⟩ | ⟨g0, g1⟩
      · cases hhr : D.hr k with
        | false =>
          have G0 : ¬ k < x2.n := by omega
          have G1 := hid (g1 k)
          clear g0 g1 hR
          rw [hhr] at hc3
          go_wp2_with (at_builtin; refine wpList_append_new _ rfl _ _ 75 rfl (w.heap.size + 1) 86 i0 (.pointer none) 1 8 Try.underlying75 hi hz0 hz1 hz2 rfl (by decide) _ k (ptrs A k) rfl ?qo (some ⟨wr.heap.size + 1, 0, none⟩) ⟨wr.heap.size + 1, 0, none⟩ 1 1 [.pointer (some ⟨wr.heap.size, 0, none⟩)] rfl rfl rfl ?q1 ?q2 ?q3 ?q4 ?q5 ?_)
          case qo => exact (HR.out.own.alloc _).alloc _
          case q1 =>
            intro j u hj
            match j, hj with
            | 0, hj => simp at hj; subst hj; simp [Addr.add]
          case q2 => intro u hu; simp at hu; subst hu; rfl
          case q3 => unfold maxLen; omega
          case q4 => omega
          case q5 => simp; omega
          intro s' c' w2 hown hg hnew
          have hcz := HR.out.own.lt
          have hc2 : w2.rowIs w.heap.size 78 7 (cCells (.slice s k c) (.slice none 0 0)) := ((HR.out.comp.alloc _).alloc _).of_block (hg.block _ (by simp; omega) (fun e => by have := (hcz _ e.symm).1; omega))
          have hcc2 : w2.cell? ⟨w.heap.size, 4, none⟩ = some (.slice s k c) := hc2.cell (i := 4) (by omega)
          have hfz2 := hc2.frozen 4
          have HN := hid (HR.out.next (((Below.refl _ _).alloc (Nat.le_refl _) _).alloc (by simp) _) (a := wr.heap.size) (t := wr.heap.size) (⟨by simp, by simp [G1.out], by simp [hhr], fun e => by rw [hhr] at e; cases e⟩) (Nat.le_refl _) (by omega) (by simp <;> omega) hown hg hnew)
          clear hown hg hnew hc2 hcc hcz
          go_wp2
          go_roundw
          case rel => exact ⟨k + 1, s', c', _, _, by omega, by go_num, HN.out⟩
          case measure => simp [intOf]; omega
        | true =>
          have G0 : ¬ k < x2.n := by omega
          have G1 := hid (g1 k)
          clear g0 g1 hR
          rw [hhr] at hc3
          go_wp2_with (at_builtin; refine wpList_append_new _ rfl _ _ 75 rfl (w.heap.size + 1) 86 i0 (.pointer none) 1 8 Try.underlying75 hi hz0 hz1 hz2 rfl (by decide) _ k (ptrs A k) rfl ?qo (some ⟨wr.heap.size + 2, 0, none⟩) ⟨wr.heap.size + 2, 0, none⟩ 1 1 [.pointer (some ⟨wr.heap.size, 0, none⟩)] rfl rfl rfl ?q1 ?q2 ?q3 ?q4 ?q5 ?_)
          case qo => exact ((HR.out.own.alloc _).alloc _).alloc _
          case q1 =>
            intro j u hj
            match j, hj with
            | 0, hj => simp at hj; subst hj; show World.cell? _ ⟨wr.heap.size + 2, 0, none⟩ = _; rw [cell_c2]; rfl
          case q2 => intro u hu; simp at hu; subst hu; rfl
          case q3 => unfold maxLen; omega
          case q4 => omega
          case q5 => simp; omega
          intro s' c' w2 hown hg hnew
          have hcz := HR.out.own.lt
          have hc2 : w2.rowIs w.heap.size 78 7 (cCells (.slice s k c) (.slice none 0 0)) := (((HR.out.comp.alloc _).alloc _).alloc _).of_block (hg.block _ (by simp; omega) (fun e => by have := (hcz _ e.symm).1; omega))
          have hcc2 : w2.cell? ⟨w.heap.size, 4, none⟩ = some (.slice s k c) := hc2.cell (i := 4) (by omega)
          have hfz2 := hc2.frozen 4
          have HN := hid (HR.out.next ((((Below.refl _ _).alloc (Nat.le_refl _) _).alloc (by simp) _).alloc (by simp; omega) _) (a := wr.heap.size) (t := wr.heap.size + 1) (⟨by rw [cell_a2]; rfl, by rw [cell_a2, G1.out]; rfl, by rw [cell_a2, hhr]; rfl, fun _ => by rw [cell_b2]; rfl⟩) (Nat.le_refl _) (by omega) (by simp <;> omega) hown hg hnew)
          clear hown hg hnew hc2 hcc hcz
          go_wp2
          go_roundw
          case rel => exact ⟨k + 1, s', c', _, _, by omega, by go_num, HN.out⟩
          case measure => simp [intOf]; omega
      · cases hhr : D.hr k with
        | false =>
          have hx2 : k < x2.n := by rw [g0]; exact hlt
          have hix2 := idx23 g1.has k hx2
          have hb2 : x2.b < wr.heap.size := Nat.lt_of_lt_of_le (g1.has.blk hx2) hR.bel.size
          have hcx2 := (hR.bel.cell (p := ⟨x2.b, x2.off + k, none⟩) (g1.has.blk hx2)).trans (g1.has.cell hx2)
          clear g0 g1 hR
          rw [hhr] at hc3
          go_wp2_with (at_builtin; refine wpList_append_new _ rfl _ _ 75 rfl (w.heap.size + 1) 86 i0 (.pointer none) 1 8 Try.underlying75 hi hz0 hz1 hz2 rfl (by decide) _ k (ptrs A k) rfl ?qo (some ⟨wr.heap.size + 1, 0, none⟩) ⟨wr.heap.size + 1, 0, none⟩ 1 1 [.pointer (some ⟨wr.heap.size, 0, none⟩)] rfl rfl rfl ?q1 ?q2 ?q3 ?q4 ?q5 ?_)
          case qo => exact (HR.out.own.alloc _).alloc _
          case q1 =>
            intro j u hj
            match j, hj with
            | 0, hj => simp at hj; subst hj; simp [Addr.add]
          case q2 => intro u hu; simp at hu; subst hu; rfl
          case q3 => unfold maxLen; omega
          case q4 => omega
          case q5 => simp; omega
          intro s' c' w2 hown hg hnew
          have hcz := HR.out.own.lt
          have hc2 : w2.rowIs w.heap.size 78 7 (cCells (.slice s k c) (.slice none 0 0)) := ((HR.out.comp.alloc _).alloc _).of_block (hg.block _ (by simp; omega) (fun e => by have := (hcz _ e.symm).1; omega))
          have hcc2 : w2.cell? ⟨w.heap.size, 4, none⟩ = some (.slice s k c) := hc2.cell (i := 4) (by omega)
          have hfz2 := hc2.frozen 4
          have HN := hid (HR.out.next (((Below.refl _ _).alloc (Nat.le_refl _) _).alloc (by simp) _) (a := wr.heap.size) (t := wr.heap.size) (⟨by simp, by simp, by simp [hhr], fun e => by rw [hhr] at e; cases e⟩) (Nat.le_refl _) (by omega) (by simp <;> omega) hown hg hnew)
          clear hown hg hnew hc2 hcc hcz
          go_wp2
          go_roundw
          case rel => exact ⟨k + 1, s', c', _, _, by omega, by go_num, HN.out⟩
          case measure => simp [intOf]; omega
        | true =>
          have hx2 : k < x2.n := by rw [g0]; exact hlt
          have hix2 := idx23 g1.has k hx2
          have hb2 : x2.b < wr.heap.size := Nat.lt_of_lt_of_le (g1.has.blk hx2) hR.bel.size
          have hcx2 := (hR.bel.cell (p := ⟨x2.b, x2.off + k, none⟩) (g1.has.blk hx2)).trans (g1.has.cell hx2)
          clear g0 g1 hR
          rw [hhr] at hc3
          go_wp2_with (at_builtin; refine wpList_append_new _ rfl _ _ 75 rfl (w.heap.size + 1) 86 i0 (.pointer none) 1 8 Try.underlying75 hi hz0 hz1 hz2 rfl (by decide) _ k (ptrs A k) rfl ?qo (some ⟨wr.heap.size + 2, 0, none⟩) ⟨wr.heap.size + 2, 0, none⟩ 1 1 [.pointer (some ⟨wr.heap.size, 0, none⟩)] rfl rfl rfl ?q1 ?q2 ?q3 ?q4 ?q5 ?_)
          case qo => exact ((HR.out.own.alloc _).alloc _).alloc _
          case q1 =>
            intro j u hj
            match j, hj with
            | 0, hj => simp at hj; subst hj; show World.cell? _ ⟨wr.heap.size + 2, 0, none⟩ = _; rw [cell_c2]; rfl
          case q2 => intro u hu; simp at hu; subst hu; rfl
          case q3 => unfold maxLen; omega
          case q4 => omega
          case q5 => simp; omega
          intro s' c' w2 hown hg hnew
          have hcz := HR.out.own.lt
          have hc2 : w2.rowIs w.heap.size 78 7 (cCells (.slice s k c) (.slice none 0 0)) := (((HR.out.comp.alloc _).alloc _).alloc _).of_block (hg.block _ (by simp; omega) (fun e => by have := (hcz _ e.symm).1; omega))
          have hcc2 : w2.cell? ⟨w.heap.size, 4, none⟩ = some (.slice s k c) := hc2.cell (i := 4) (by omega)
          have hfz2 := hc2.frozen 4
          have HN := hid (HR.out.next ((((Below.refl _ _).alloc (Nat.le_refl _) _).alloc (by simp) _).alloc (by simp; omega) _) (a := wr.heap.size) (t := wr.heap.size + 1) (⟨by rw [cell_a2]; rfl, by rw [cell_a2]; rfl, by rw [cell_a2, hhr]; rfl, fun _ => by rw [cell_b2]; rfl⟩) (Nat.le_refl _) (by omega) (by simp <;> omega) hown hg hnew)
          clear hown hg hnew hc2 hcc hcz
          go_wp2
          go_roundw
          case rel => exact ⟨k + 1, s', c', _, _, by omega, by go_num, HN.out⟩
          case measure => simp [intOf]; omega
    · have hke : k = x1.n := by omega
      subst hke
      have HR : Hid (R1 w D.slug D.given D.hr D.rep D.n s c A T wr) := by unfold Hid; rw [← E1.out]; exact hR
      have HRc := hid hR.comp
      have HRb := hid hR.bel
      clear hR
      obtain ⟨i1, gi, gz0, gz1, gz2⟩ := info_parts info79
      obtain ⟨i2, ji, jz0, jz1, jz2⟩ := info_parts info3
      go_wp2
      generalize hW0 : wr = W0 at HR HRc HRb ⊢
      clear hW0 wr
      go_loopw [23] (fun i wr => ∃ (k : Nat) (s2 : Option Addr) (c2 : Nat) (Tm : Nat → Nat) (Y : Nat → Sl), k ≤ x7.n ∧ i = .int .i64 k ∧ R2 W0 w.heap.size (.slice s D.n c) D.tf D.ti D.M D.nm D.Z k s2 c2 Tm Y wr) (fun i _ => x7.n - (intOf i).toNat)
      case atStart =>
        refine ⟨0, none, 0, fun _ => 0, fun _ => ⟨none, 0, 0, 0, 0⟩, Nat.zero_le _, rfl, ⟨by rw [← E1.out]; exact HRc.out, World.ownsRow_nil _ _ _ _, fun j h => absurd h (Nat.not_lt_zero j), World.grownBy.refl _ _, HRc.out.lt⟩⟩
      case round =>
        obtain ⟨k, s2, c2, Tm, Y, hk, rfl, hR2⟩ := hrel
        by_cases hlt : k < x7.n
        · have hBW : Below w.heap.size w wr := HRb.out.grown hR2.bel (Nat.le_of_lt HRc.out.lt) (fun g e => by cases e; exact Nat.le_refl _)
          have hix := idx24 h7.has k hlt
          have hc := (hBW.cell (p := ⟨x7.b, x7.off + k, none⟩) (h7.has.blk hlt)).trans (h7.has.cell hlt)
          have hb7 : x7.b < wr.heap.size := Nat.lt_of_lt_of_le (h7.has.blk hlt) hBW.size
          have hx5 : k < x5.n := by rw [E5.out]; exact hlt
          have hix5 := idx22 h5.has k hx5
          have hb5 : x5.b < wr.heap.size := Nat.lt_of_lt_of_le (h5.has.blk hx5) hBW.size
          have hc5 := (hBW.cell (p := ⟨x5.b, x5.off + k, none⟩) (h5.has.blk hx5)).trans (h5.has.cell hx5)
          have hx6 : k < x6.n := by rw [E6.out]; exact hlt
          have hix6 := idx22 h6.has k hx6
          have hb6 : x6.b < wr.heap.size := Nat.lt_of_lt_of_le (h6.has.blk hx6) hBW.size
          have hc6 := (hBW.cell (p := ⟨x6.b, x6.off + k, none⟩) (h6.has.blk hx6)).trans (h6.has.cell hx6)
          have hx8 : k < x8.n := by rw [E8.out]; exact hlt
          have hix8 := idx25 h8.has k hx8
          have hb8 : x8.b < wr.heap.size := Nat.lt_of_lt_of_le (h8.has.blk hx8) hBW.size
          have hc8 := (hBW.cell (p := ⟨x8.b, x8.off + k, none⟩) (h8.has.blk hx8)).trans (h8.has.cell hx8)
          have HI := hid ((h8.rows k hx8).below hBW)
          obtain ⟨hnm, hrl⟩ := HRN.out k hlt
          have HNM := hid hnm
          have hcc : wr.cell? ⟨w.heap.size, 6, none⟩ = some (.slice s2 k c2) := hR2.comp.cell (i := 6) (by omega)
          have hcl := hR2.comp.lt
          have hfz := hR2.comp.frozen 6
          have hsz0 := hR2.bel.size
          have HR2 := hid hR2
          clear hR2 hBW hnm
          by_cases hr0 : (R k).n = 0
          · have HR0 := hid hr0
            clear hr0
            go_wp2_with (first | (at_builtin; refine wpList_append_empty _ rfl (.const (.slice none 0 0)) (.tmp 136) 24 rfl 3 i2 Try.underlying24 ji rfl (R k).s (R k).n (R k).c rfl HR0.out ?_) | (at_builtin; refine wpList_append_new _ rfl (.tmp 144) (.tmp 146) 76 rfl W0.heap.size 79 i1 (.pointer none) 1 8 Try.underlying76 gi gz0 gz1 gz2 rfl (by decide) _ k (ptrs Tm k) rfl ?qo (some ⟨wr.heap.size + 1, 0, none⟩) ⟨wr.heap.size + 1, 0, none⟩ 1 1 [.pointer (some ⟨wr.heap.size, 0, none⟩)] rfl rfl rfl ?q1 ?q2 ?q3 ?q4 ?q5 ?_))
            case qo => exact (HR2.out.own.alloc _).alloc _
            case q1 =>
              intro j u hj
              match j, hj with
              | 0, hj => simp at hj; subst hj; simp [Addr.add]
            case q2 => intro u hu; simp at hu; subst hu; rfl
            case q3 => unfold maxLen; omega
            case q4 => omega
            case q5 => simp; omega
            intro s' c' w2 hown hg hnew
            have hcz := HR2.out.own.lt
            have hcb := HR2.out.cb
            have hc2 : w2.rowIs w.heap.size 78 7 (cCells (.slice s D.n c) (.slice s2 k c2)) := ((HR2.out.comp.alloc _).alloc _).of_block (hg.block _ (by simp; omega) (fun e => by have := (hcz _ e.symm).1; omega))
            have hcc2 : w2.cell? ⟨w.heap.size, 6, none⟩ = some (.slice s2 k c2) := hc2.cell (i := 6) (by omega)
            have hfz2 := hc2.frozen 6
            have HN := hid (HR2.out.next (((Below.refl _ _).alloc (Nat.le_refl _) _).alloc (by simp) _) (a := wr.heap.size) (y := ⟨none, 0, 0, 0, 0⟩) ⟨by simp, by simp, by simp, by simp, ⟨has_nil _ _, fun i hi => absurd hi (Nat.not_lt_zero i)⟩, by rw [← HNM.out, HR0.out]⟩ (Nat.le_refl _) (fun h0 => absurd h0 (by simp)) hown hg hnew)
            clear hown hg hnew hc2 hcc hcz hcb
            go_wp2
            go_roundw
            case rel => exact ⟨k + 1, s', c', _, _, by omega, by go_num, HN.out⟩
            case measure => simp [intOf]; omega
          · have hrp : 0 < (R k).n := by omega
            have HS := hid (HI.out.has.row 0 hrp).1
            go_wp2_with (at_builtin; refine wpList_append_new _ rfl (.const (.slice none 0 0)) (.tmp 136) 24 rfl (wr.heap.size + 1) 3 i2 (.int .i64 0) 1 8 Try.underlying24 ji jz0 jz1 jz2 rfl (by decide) (.slice none 0 0) 0 [] rfl ?po (R k).s ⟨(R k).b, (R k).off, none⟩ (R k).n (R k).c ((List.range (R k).n).map fun i => .int .i64 (D.Z k i)) rfl HS.out ?p0 ?p1 ?p2 ?p3 ?p4 ?p5 ?_)
            case po => exact World.ownsRow_nil _ _ _ _
            case p0 => simp
            case p1 =>
              intro j u hj
              have hjl : j < (R k).n := by
                have := (List.getElem?_eq_some_iff.1 hj).1
                simpa using this
              simp [hjl] at hj
              subst hj
              rw [Addr.add_lit, World.cell?_alloc_past _ _ _ (HI.out.has.blk hjl)]
              exact HI.out.has.cell hjl
            case p2 =>
              intro u hu
              obtain ⟨_, _, rfl⟩ := List.mem_map.1 hu
              rfl
            case p3 => unfold maxLen; omega
            case p4 => omega
            case p5 => simp
            intro s3 c3 w1 hown1 hg1 _
            have hcb := HR2.out.cb
            have hcz := HR2.out.own.lt
            have hs1 := hg1.size
            rw [World.size_alloc] at hs1
            have htc : w1.rowIs wr.heap.size 82 6 (tCells (D.tf k) (D.ti k) (D.M k) (.slice none 0 0)) := (team_new wr (D.tf k) (D.ti k) (D.M k)).of_block (hg1.block _ (by simp) (fun e => by cases e))
            have htc4 : w1.cell? ⟨wr.heap.size, 4, none⟩ = some (.slice none 0 0) := htc.cell (i := 4) (by omega)
            have htf := htc.frozen 4
            have hcm1 : w1.rowIs w.heap.size 78 7 (cCells (.slice s D.n c) (.slice s2 k c2)) := (HR2.out.comp.alloc _).of_block (hg1.block _ (by simp; omega) (fun e => by cases e))
            have hcm6 : w1.cell? ⟨w.heap.size, 6, none⟩ = some (.slice s2 k c2) := hcm1.cell (i := 6) (by omega)
            have hcmf := hcm1.frozen 6
            have hne : w.heap.size ≠ wr.heap.size := by omega
            have hlt1 : w.heap.size < w1.heap.size := by omega
            have HT := hid htc
            have HC1 := hid hcm1
            have HO1 := hid hown1
            have HG1 := hid hg1
            clear htc hcm1 hown1 hg1
            go_wp2_with (at_builtin; refine wpList_append_new _ rfl (.tmp 144) (.tmp 146) 76 rfl W0.heap.size 79 i1 (.pointer none) 1 8 Try.underlying76 gi gz0 gz1 gz2 rfl (by decide) _ k (ptrs Tm k) rfl ?qo (some ⟨w1.heap.size, 0, none⟩) ⟨w1.heap.size, 0, none⟩ 1 1 [.pointer (some ⟨wr.heap.size, 0, none⟩)] rfl rfl rfl ?q1 ?q2 ?q3 ?q4 ?q5 ?_)
            case qo => exact (((HR2.out.own.alloc _).kept HG1.out (by cases hv : (Value.slice s2 k c2).ownBlock <;> simp [Value.ownBlock])).kept (grownBy_setCell _ _ _) (Or.inr (fun e => by have := (hcz _ e).2; simp at this))).alloc _
            case q1 =>
              intro j u hj
              match j, hj with
              | 0, hj => simp at hj; subst hj; show World.cell? _ ⟨w1.heap.size, 0, none⟩ = _; rw [World.cell?_alloc_at _ _ _ _ (by simp)]; rfl
            case q2 => intro u hu; simp at hu; subst hu; rfl
            case q3 => unfold maxLen; omega
            case q4 => omega
            case q5 => simp; omega
            intro s' c' w2 hown hg hnew
            obtain ⟨k1, k2, k3⟩ := team_step HI.out.bd HO1.out HG1.out (.cells #[.pointer (some ⟨wr.heap.size, 0, none⟩)] 79)
            have hsz2 : w.heap.size < ((w1.setCell ⟨wr.heap.size, 4, none⟩ (.slice s3 (R k).n c3)).alloc (.cells #[.pointer (some ⟨wr.heap.size, 0, none⟩)] 79)).heap.size := by simp; omega
            have hc2 : w2.rowIs w.heap.size 78 7 (cCells (.slice s D.n c) (.slice s2 k c2)) := ((HC1.out.setOther (by exact hne) _).alloc _).of_block (hg.block _ hsz2 (fun e => by have := (hcz _ e.symm).1; omega))
            have hcc2 : w2.cell? ⟨w.heap.size, 6, none⟩ = some (.slice s2 k c2) := hc2.cell (i := 6) (by omega)
            have hfz2 := hc2.frozen 6
            have k2' : TmAt ((w1.setCell ⟨wr.heap.size, 4, none⟩ (.slice s3 (R k).n c3)).alloc (.cells #[.pointer (some ⟨wr.heap.size, 0, none⟩)] 79)) wr.heap.size ⟨s3, (R k).n, c3, (s3.getD ⟨0, 0, none⟩).block, 0⟩ (D.tf k) (D.ti k) (D.M k) (D.nm k) (D.Z k) := by rw [← HNM.out]; exact k2
            have HN := hid (HR2.out.next k1 k2' (Nat.le_refl _) k3 hown hg hnew)
            clear hown hg hnew hc2 hcc hcz hcb k1 k2 k2' k3 hsz2 hcm6 hcmf
            go_wp2
            go_roundw
            case rel => exact ⟨k + 1, s', c', _, _, by omega, by go_num, HN.out⟩
            case measure => simp [intOf]; omega
        · have hke : k = x7.n := by omega
          subst hke
          have HR2 := hid hR2
          clear hR2
          go_wp2
          go_ret
          exact comp_done HR.out (by rw [← E7.out]; exact HR2.out)
end Go.Proofs.Qxb6601102a
