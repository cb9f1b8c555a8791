/-
  THE WALKS, I: slices.IndexFunc, slices.DeleteFunc with the two closures of place; slices.Clone.
-/
import Derived.Test.Qxb6601102aMin
import Derived.Lib.SliceRun
namespace Go.Proofs.Qxb6601102a
open Go.RowKit

theorem rowIs_setCells {g : Nat} {t : TypeId} {n : Nat} : ∀ (vs : List Value) (o : Nat) (w : World) (f : Nat → Value), w.rowIs g t n f → ∃ f', (w.setCells g o vs).rowIs g t n f' ∧ ∀ j, j < o → f' j = f j
  | [], _, _, f, h => ⟨f, h, fun _ _ => rfl⟩
  | v :: vs, o, w, f, h => by
    obtain ⟨f', h1, h2⟩ := rowIs_setCells vs (o + 1) (w.setCell ⟨g, o, none⟩ v) _ (h.set o v)
    refine ⟨f', h1, fun j hj => ?_⟩
    rw [h2 j (by omega), if_neg (by omega)]
theorem grown_setCells {g : Nat} {w : World} : ∀ (vs : List Value) (o : Nat) (w1 : World), w.grownBy w1 (some g) → w.grownBy (w1.setCells g o vs) (some g)
  | [], _, _, h => h
  | v :: vs, o, w1, h => grown_setCells vs (o + 1) (w1.setCell ⟨g, o, none⟩ v) (by
      have hs := grownBy_setCell w1 ⟨g, o, none⟩ v
      exact ⟨hs.os.trans h.os, hs.tape.trans h.tape, hs.output.trans h.output, Nat.le_trans h.size hs.size, fun k hk hne => by
        rw [hs.block k (Nat.lt_of_lt_of_le hk h.size) hne]; exact h.block k hk hne⟩)

theorem zero3 (w : World) : (zeroValue 3).run Try.prog w = .ok (.int .i64 0) w := by kernel_rfl
/-- The elements that p lets stay. -/
def keep (p : Nat → Bool) (z : Nat → Nat) (n : Nat) : List Nat := ((List.range n).map z).filter fun k => !p k
theorem keep_succ (p : Nat → Bool) (z : Nat → Nat) (n : Nat) : keep p z (n + 1) = keep p z n ++ (if p (z n) then [] else [z n]) := by
  unfold keep
  rw [List.range_succ, List.map_append, List.filter_append]
  congr 1
  by_cases h : p (z n) <;> simp [h]
theorem keep_le (p : Nat → Bool) (z : Nat → Nat) (n : Nat) : (keep p z n).length ≤ n := by
  unfold keep
  have := List.length_filter_le (fun k => !p k) ((List.range n).map z)
  simpa using this
theorem keep_lt {p : Nat → Bool} {z : Nat → Nat} {j n : Nat} (h : j < n) (hp : p (z j) = true) : (keep p z n).length < n := by
  induction n with
  | zero => omega
  | succ n ih =>
    rw [keep_succ, List.length_append]
    by_cases e : j = n
    · subst e
      rw [if_pos hp]
      have := keep_le p z j
      simp; omega
    · have := ih (by omega)
      split <;> simp <;> omega
theorem keep_all (p : Nat → Bool) (z : Nat → Nat) (n : Nat) (h : ∀ j, j < n → p (z j) = false) : keep p z n = (List.range n).map z := by
  unfold keep
  rw [List.filter_eq_self]
  intro a ha
  obtain ⟨j, hj, rfl⟩ := List.mem_map.1 ha
  simp [h j (List.mem_range.1 hj)]

def IdxP (p : Nat → Bool) (z : Nat → Nat) (n : Nat) (w : World) (e : Ending) (w' : World) : Prop := ∃ r : Int, e = .returned (.int .i64 r) ∧ (∃ q, w' = w.drewN q) ∧ ((∃ j : Nat, r = j ∧ j < n ∧ p (z j) = true ∧ ∀ i, i < j → p (z i) = false) ∨ (r = -1 ∧ ∀ i, i < n → p (z i) = false))
theorem IdxP.hit {p : Nat → Bool} {z : Nat → Nat} {n : Nat} {w : World} {q j : Nat} (h1 : j < n) (h2 : p (z j) = true) (h3 : ∀ i, i < j → p (z i) = false) : IdxP p z n w (.returned (.int .i64 j)) (w.drewN q) := ⟨j, rfl, ⟨q, rfl⟩, Or.inl ⟨j, rfl, h1, h2, h3⟩⟩
theorem IdxP.miss {p : Nat → Bool} {z : Nat → Nat} {n : Nat} {w : World} {q : Nat} (h3 : ∀ i, i < n → p (z i) = false) : IdxP p z n w (.returned (.int .i64 (-1))) (w.drewN q) := ⟨-1, rfl, ⟨q, rfl⟩, Or.inr ⟨rfl, h3⟩⟩

/-- slices.DeleteFunc: the slice cut to those that stay; they lie at its head; nothing else has turned but the slice's own block. -/
def DelP (p : Nat → Bool) (z : Nat → Nat) (n g c : Nat) (w : World) (e : Ending) (w' : World) : Prop := ∃ f, e = .returned (.slice (some ⟨g, 0, none⟩) (keep p z n).length c) ∧ w'.rowIs g 3 c f ∧ (∀ j, (h : j < (keep p z n).length) → f j = .int .i64 ((keep p z n)[j] : Nat)) ∧ w.grownBy w' (some g)

/-- DeleteFunc's row behind j rounds. -/
structure DelR (p : Nat → Bool) (z : Nat → Nat) (n g c : Nat) (w : World) (j : Nat) (f : Nat → Value) (wr : World) : Prop where
  row : wr.rowIs g 3 c f
  done : ∀ x, (h : x < (keep p z j).length) → f x = .int .i64 ((keep p z j)[x] : Nat)
  todo : ∀ x, j ≤ x → x < n → f x = .int .i64 (z x)
  grown : w.grownBy wr (some g)
theorem DelR.skip {p : Nat → Bool} {z : Nat → Nat} {n g c : Nat} {w : World} {j : Nat} {f : Nat → Value} {wr : World} (h : DelR p z n g c w j f wr) (hp : p (z j) = true) (q : Nat) : DelR p z n g c w (j + 1) f (wr.drewN q) := by
  have e : keep p z (j + 1) = keep p z j := by rw [keep_succ, if_pos hp, List.append_nil]
  refine ⟨h.row, fun x hx => ?_, fun x h1 h2 => h.todo x (by omega) h2, ⟨h.grown.os, h.grown.tape, h.grown.output, h.grown.size, h.grown.block⟩⟩
  simp only [e] at hx ⊢
  exact h.done x hx
theorem DelR.take {p : Nat → Bool} {z : Nat → Nat} {n g c : Nat} {w : World} {j : Nat} {f : Nat → Value} {wr : World} (h : DelR p z n g c w j f wr) (hp : p (z j) = false) (q : Nat) :
    DelR p z n g c w (j + 1) (fun x => if x = (keep p z j).length then .int .i64 (z j) else f x) ((wr.drewN q).setCell ⟨g, (keep p z j).length, none⟩ (.int .i64 (z j))) := by
  have e : keep p z (j + 1) = keep p z j ++ [z j] := by rw [keep_succ, if_neg (by simp [hp])]
  have hle := keep_le p z j
  have hrow : (wr.drewN q).rowIs g 3 c f := h.row
  refine ⟨hrow.set _ _, fun x hx => ?_, fun x h1 h2 => ?_, ?_⟩
  · simp only [e] at hx ⊢
    by_cases ex : x = (keep p z j).length
    · subst ex
      simp
    · have hx2 : x < (keep p z j).length := by simp at hx; omega
      rw [if_neg ex, h.done x hx2, List.getElem_append_left hx2]
  · rw [if_neg (by omega)]
    exact h.todo x (by omega) h2
  · have hs := grownBy_setCell (wr.drewN q) ⟨g, (keep p z j).length, none⟩ (.int .i64 (z j))
    exact ⟨hs.os.trans h.grown.os, hs.tape.trans h.grown.tape, hs.output.trans h.grown.output, Nat.le_trans h.grown.size hs.size, fun k hk hne => by
      rw [hs.block k (Nat.lt_of_lt_of_le hk h.grown.size) hne]; exact h.grown.block k hk hne⟩

theorem DelR.ends {p : Nat → Bool} {z : Nat → Nat} {n g c : Nat} {w : World} {f : Nat → Value} {wr : World} {kl : Nat} {vs : List Value} (h : DelR p z n g c w n f wr) (hk : (keep p z n).length = kl) :
    DelP p z n g c w (.returned (.slice (some ⟨g, 0, none⟩) kl c)) (wr.setCells g kl vs) := by
  subst hk
  obtain ⟨f', h1, h2⟩ := rowIs_setCells vs (keep p z n).length wr f h.row
  exact ⟨f', rfl, h1, fun j hj => by rw [h2 j hj]; exact h.done j hj, grown_setCells vs _ wr h.grown⟩
theorem DelP.same {p : Nat → Bool} {z : Nat → Nat} {n g c q : Nat} {w : World} {f : Nat → Value} (h : w.rowIs g 3 c f) (hf : ∀ j, j < n → f j = .int .i64 (z j)) (hn : ∀ i, i < n → p (z i) = false) :
    DelP p z n g c w (.returned (.slice (some ⟨g, 0, none⟩) n c)) (w.drewN q) := by
  have e := keep_all p z n hn
  have el : (keep p z n).length = n := by rw [e]; simp
  refine ⟨f, by rw [el], h, fun j hj => ?_, ⟨rfl, rfl, rfl, Nat.le_refl _, fun _ _ _ => rfl⟩⟩
  simp only [e] at hj ⊢
  rw [hf j (by simp at hj; omega)]
  simp

set_option maxRecDepth 100000 in
set_option maxHeartbeats 1000000 in
theorem idx44_any (w0 : World) (K bc b2 : Nat) (p : Nat → Bool) (hp : ∀ W, Below w0.heap.size w0 W → ∀ k, k < K → Calls Try.prog 44 #[.int .i64 k, .pointer (some ⟨bc, 0, none⟩), .pointer (some ⟨b2, 0, none⟩)] W fun e w' => e = .returned (.bool (p k)) ∧ ∃ q, w' = W.drewN q)
    (w : World) (hb : Below w0.heap.size w0 w) (y : Sl) (z : Nat → Nat) (hy : y.Has w fun j => .int .i64 (z j)) (hz : ∀ j, j < y.n → z j < K) :
    Calls Try.prog 49 #[.slice y.s y.n y.c, .func (.func 44) #[] #[.pointer (some ⟨bc, 0, none⟩), .pointer (some ⟨b2, 0, none⟩)]] w (IdxP p z y.n w) := by
  have hlen := hy.len
  have HP := hid hp
  have HB := hid hb
  have HY := hid hy
  have HZ := hid hz
  clear hp hb hy hz
  go_enter Try.func49, Try.ntmps49
  go_wp2
  go_loopw [8, 5] (fun i _ wr => ∃ k q : Nat, k ≤ y.n ∧ i = .int .i64 k ∧ wr = w.drewN q ∧ (∀ j, j < k → p (z j) = false)) (fun i _ _ => y.n - (intOf i).toNat)
  case atStart => exact ⟨0, 0, Nat.zero_le _, rfl, rfl, fun j h => absurd h (Nat.not_lt_zero j)⟩
  case round =>
    obtain ⟨k, q, hk, rfl, rfl, hd⟩ := hrel
    have HD := hid hd
    clear hd
    by_cases hlt : k < y.n
    · have hix := idx24 HY.out k hlt
      have hc := HY.out.cell hlt
      have HC := hid (HP.out (w.drewN q) (Qxb6601102a.Below.drawn HB.out q) (z k) (HZ.out k hlt))
      cases hpk : p (z k) with
      | true =>
        go_wp2_with fail
        refine HC.out.mono ?_
        rintro e w' ⟨rfl, q', hw⟩
        subst hw
        rw [hpk]
        go_wp2
        go_ret
        exact IdxP.hit hlt hpk HD.out
      | false =>
        go_wp2_with fail
        refine HC.out.mono ?_
        rintro e w' ⟨rfl, q', hw⟩
        subst hw
        rw [hpk]
        go_wp2
        go_roundw
        case rel => exact ⟨k + 1, q + q', by omega, by go_num, by first | rfl | rw [World.drewN_drewN], fun j hj => by
          by_cases e : j = k
          · subst e; exact hpk
          · exact HD.out j (by omega)⟩
        case measure => simp [intOf]; omega
    · go_wp2
      go_ret
      exact IdxP.miss fun i hi => HD.out i (by omega)

set_option maxRecDepth 100000 in
set_option maxHeartbeats 1000000 in
theorem del44_any (w0 : World) (K bc b2 : Nat) (p : Nat → Bool) (hp : ∀ W, Below w0.heap.size w0 W → ∀ k, k < K → Calls Try.prog 44 #[.int .i64 k, .pointer (some ⟨bc, 0, none⟩), .pointer (some ⟨b2, 0, none⟩)] W fun e w' => e = .returned (.bool (p k)) ∧ ∃ q, w' = W.drewN q)
    (w : World) (hb : Below w0.heap.size w0 w) (g n c : Nat) (f : Nat → Value) (hg : w0.heap.size ≤ g) (z : Nat → Nat) (hrow : w.rowIs g 3 c f) (hf : ∀ j, j < n → f j = .int .i64 (z j)) (h0 : 0 < n) (hnc : n ≤ c) (hn : n ≤ 9223372036854775807) (hz : ∀ j, j < n → z j < K) :
    Calls Try.prog 42 #[.slice (some ⟨g, 0, none⟩) n c, .func (.func 44) #[] #[.pointer (some ⟨bc, 0, none⟩), .pointer (some ⟨b2, 0, none⟩)]] w (DelP p z n g c w) := by
  have hidx := hid (idx44_any w0 K bc b2 p hp w hb ⟨some ⟨g, 0, none⟩, n, c, g, 0⟩ z ⟨fun i hi => ⟨rfl, by show w.cell? ⟨g, 0 + i, none⟩ = _; rw [Nat.zero_add, hrow.cell (Nat.lt_of_lt_of_le hi hnc), hf i hi]⟩, hn⟩ hz)
  have HP := hid hp
  have HB := hid hb
  have HROW := hid hrow
  have HF := hid hf
  have HZ := hid hz
  clear hp hb hrow hf hz
  go_enter Try.func42, Try.ntmps42
  go_wp2_with fail
  refine hidx.out.mono ?_
  rintro e w' ⟨r, rfl, ⟨q, hw⟩, hr⟩
  subst hw
  rcases hr with ⟨j, rfl, hj, hpj, hbef⟩ | ⟨rfl, hnone⟩
  · have hk0 := keep_all p z j hbef
    have hkl : (keep p z j).length = j := by rw [hk0]; simp
    have hjm : ((j : Int) == -1) = false := by rw [beq_eq_false_iff_ne]; omega
    have HD0 : Hid (DelR p z n g c w j f (w.drewN q)) := by
      refine ⟨HROW.out, fun x hx => ?_, fun x _ h2 => HF.out x h2, ⟨rfl, rfl, rfl, Nat.le_refl _, fun _ _ _ => rfl⟩⟩
      simp only [hk0] at hx ⊢
      rw [HF.out x (by simp at hx; omega)]
      simp
    have HD1 := hid (HD0.out.skip hpj 0)
    have HK : Hid ((keep p z (j + 1)).length = j) := by unfold Hid; rw [keep_succ, if_pos hpj, List.append_nil]; exact hkl
    have HK2 := hid (fun x (h : j < x) => keep_lt (p := p) (z := z) h hpj)
    clear hbef hpj hk0 hkl
    go_wp2
    go_loopw [5, 6, 7] (fun i j' _ wr => ∃ (x : Nat) (f : Nat → Value), j + 1 ≤ x ∧ x ≤ n ∧ j' = .int .i64 x ∧ i = .int .i64 (keep p z x).length ∧ DelR p z n g c w x f wr) (fun _ j' _ _ => n - (intOf j').toNat)
    case atStart => exact ⟨j + 1, f, Nat.le_refl _, hj, by go_num, by rw [HK.out], HD1.out⟩
    case round =>
      obtain ⟨x, f, hx1, hx2, rfl, rfl, hD⟩ := hrel
      have hkl := keep_le p z x
      by_cases hlt : x < n
      · have hcx : wr.cell? ⟨g, x, none⟩ = some (.int .i64 (z x)) := by rw [hD.row.cell (by omega), hD.todo x (Nat.le_refl _) hlt]
        have HC := hid (HP.out wr (HB.out.grown hD.grown HB.out.size (fun k e => by cases e; exact hg)) (z x) (HZ.out x hlt))
        have hck := hD.row.cell (i := (keep p z x).length) (by omega)
        have hfk := hD.row.frozen (keep p z x).length
        have HD := hid hD
        clear hD
        cases hpx : p (z x) with
        | true =>
          have HKS : Hid ((keep p z (x + 1)).length = (keep p z x).length) := by unfold Hid; rw [keep_succ, if_pos hpx, List.append_nil]
          go_wp2_with fail
          refine HC.out.mono ?_
          rintro e w' ⟨rfl, q', hw⟩
          subst hw
          rw [hpx]
          have HN := hid (HD.out.skip hpx q')
          go_wp2
          go_roundw
          case rel => exact ⟨x + 1, f, by omega, by omega, by go_num, by rw [HKS.out], HN.out⟩
          case measure => simp [intOf]; omega
        | false =>
          have HKS : Hid ((keep p z (x + 1)).length = (keep p z x).length + 1) := by unfold Hid; rw [keep_succ, if_neg (by simp [hpx])]; simp
          go_wp2_with fail
          refine HC.out.mono ?_
          rintro e w' ⟨rfl, q', hw⟩
          subst hw
          rw [hpx]
          have HN := hid (HD.out.take hpx q')
          generalize f (keep p z x).length = old at hck
          go_wp2
          go_roundw
          case rel => exact ⟨x + 1, _, by omega, by omega, by go_num, by rw [HKS.out]; go_num, HN.out⟩
          case measure => simp [intOf]; omega
      · have hxe : x = n := by omega
        subst hxe
        have hkl2 := HK2.out x (by omega)
        have hcl : ∀ ty, (Builtin.clear_ #[24] ty #[.slice (some ⟨g, (keep p z x).length, none⟩) (x - (keep p z x).length) (c - (keep p z x).length)]).run Try.prog wr = .ok (.tuple #[]) (wr.setCells g (keep p z x).length (List.replicate (x - (keep p z x).length) (.int .i64 0))) :=
          fun ty => Lib.run_clear_slice wr 24 3 ty (.int .i64 0) Try.underlying24 zero3 rfl rfl g _ _ _ (by omega) (fun t ht => by rw [hD.row.cell (by omega)]; rfl) (fun t ht => hD.row.frozen _)
        have HD := hid hD
        clear hD
        generalize hkn : (keep p z x).length = kl at *
        have HKN := hid hkn
        clear hkn
        go_wp2
        go_ret
        exact DelR.ends HD.out HKN.out
  · have hjm : ((-1 : Int) == -1) = true := by decide
    have HN := hid hnone
    clear hnone
    go_wp2
    go_ret
    exact DelP.same HROW.out HF.out HN.out

set_option maxRecDepth 100000 in
set_option maxHeartbeats 1000000 in
theorem idx45_any (w0 : World) (K bc b2 : Nat) (p : Nat → Bool) (hp : ∀ W, Below w0.heap.size w0 W → ∀ k, k < K → Calls Try.prog 45 #[.int .i64 k, .pointer (some ⟨bc, 0, none⟩), .pointer (some ⟨b2, 0, none⟩)] W fun e w' => e = .returned (.bool (p k)) ∧ ∃ q, w' = W.drewN q)
    (w : World) (hb : Below w0.heap.size w0 w) (y : Sl) (z : Nat → Nat) (hy : y.Has w fun j => .int .i64 (z j)) (hz : ∀ j, j < y.n → z j < K) :
    Calls Try.prog 49 #[.slice y.s y.n y.c, .func (.func 45) #[] #[.pointer (some ⟨bc, 0, none⟩), .pointer (some ⟨b2, 0, none⟩)]] w (IdxP p z y.n w) := by
  have hlen := hy.len
  have HP := hid hp
  have HB := hid hb
  have HY := hid hy
  have HZ := hid hz
  clear hp hb hy hz
  go_enter Try.func49, Try.ntmps49
  go_wp2
  go_loopw [8, 5] (fun i _ wr => ∃ k q : Nat, k ≤ y.n ∧ i = .int .i64 k ∧ wr = w.drewN q ∧ (∀ j, j < k → p (z j) = false)) (fun i _ _ => y.n - (intOf i).toNat)
  case atStart => exact ⟨0, 0, Nat.zero_le _, rfl, rfl, fun j h => absurd h (Nat.not_lt_zero j)⟩
  case round =>
    obtain ⟨k, q, hk, rfl, rfl, hd⟩ := hrel
    have HD := hid hd
    clear hd
    by_cases hlt : k < y.n
    · have hix := idx24 HY.out k hlt
      have hc := HY.out.cell hlt
      have HC := hid (HP.out (w.drewN q) (Qxb6601102a.Below.drawn HB.out q) (z k) (HZ.out k hlt))
      cases hpk : p (z k) with
      | true =>
        go_wp2_with fail
        refine HC.out.mono ?_
        rintro e w' ⟨rfl, q', hw⟩
        subst hw
        rw [hpk]
        go_wp2
        go_ret
        exact IdxP.hit hlt hpk HD.out
      | false =>
        go_wp2_with fail
        refine HC.out.mono ?_
        rintro e w' ⟨rfl, q', hw⟩
        subst hw
        rw [hpk]
        go_wp2
        go_roundw
        case rel => exact ⟨k + 1, q + q', by omega, by go_num, by first | rfl | rw [World.drewN_drewN], fun j hj => by
          by_cases e : j = k
          · subst e; exact hpk
          · exact HD.out j (by omega)⟩
        case measure => simp [intOf]; omega
    · go_wp2
      go_ret
      exact IdxP.miss fun i hi => HD.out i (by omega)

set_option maxRecDepth 100000 in
set_option maxHeartbeats 1000000 in
theorem del45_any (w0 : World) (K bc b2 : Nat) (p : Nat → Bool) (hp : ∀ W, Below w0.heap.size w0 W → ∀ k, k < K → Calls Try.prog 45 #[.int .i64 k, .pointer (some ⟨bc, 0, none⟩), .pointer (some ⟨b2, 0, none⟩)] W fun e w' => e = .returned (.bool (p k)) ∧ ∃ q, w' = W.drewN q)
    (w : World) (hb : Below w0.heap.size w0 w) (g n c : Nat) (f : Nat → Value) (hg : w0.heap.size ≤ g) (z : Nat → Nat) (hrow : w.rowIs g 3 c f) (hf : ∀ j, j < n → f j = .int .i64 (z j)) (h0 : 0 < n) (hnc : n ≤ c) (hn : n ≤ 9223372036854775807) (hz : ∀ j, j < n → z j < K) :
    Calls Try.prog 42 #[.slice (some ⟨g, 0, none⟩) n c, .func (.func 45) #[] #[.pointer (some ⟨bc, 0, none⟩), .pointer (some ⟨b2, 0, none⟩)]] w (DelP p z n g c w) := by
  have hidx := hid (idx45_any w0 K bc b2 p hp w hb ⟨some ⟨g, 0, none⟩, n, c, g, 0⟩ z ⟨fun i hi => ⟨rfl, by show w.cell? ⟨g, 0 + i, none⟩ = _; rw [Nat.zero_add, hrow.cell (Nat.lt_of_lt_of_le hi hnc), hf i hi]⟩, hn⟩ hz)
  have HP := hid hp
  have HB := hid hb
  have HROW := hid hrow
  have HF := hid hf
  have HZ := hid hz
  clear hp hb hrow hf hz
  go_enter Try.func42, Try.ntmps42
  go_wp2_with fail
  refine hidx.out.mono ?_
  rintro e w' ⟨r, rfl, ⟨q, hw⟩, hr⟩
  subst hw
  rcases hr with ⟨j, rfl, hj, hpj, hbef⟩ | ⟨rfl, hnone⟩
  · have hk0 := keep_all p z j hbef
    have hkl : (keep p z j).length = j := by rw [hk0]; simp
    have hjm : ((j : Int) == -1) = false := by rw [beq_eq_false_iff_ne]; omega
    have HD0 : Hid (DelR p z n g c w j f (w.drewN q)) := by
      refine ⟨HROW.out, fun x hx => ?_, fun x _ h2 => HF.out x h2, ⟨rfl, rfl, rfl, Nat.le_refl _, fun _ _ _ => rfl⟩⟩
      simp only [hk0] at hx ⊢
      rw [HF.out x (by simp at hx; omega)]
      simp
    have HD1 := hid (HD0.out.skip hpj 0)
    have HK : Hid ((keep p z (j + 1)).length = j) := by unfold Hid; rw [keep_succ, if_pos hpj, List.append_nil]; exact hkl
    have HK2 := hid (fun x (h : j < x) => keep_lt (p := p) (z := z) h hpj)
    clear hbef hpj hk0 hkl
    go_wp2
    go_loopw [5, 6, 7] (fun i j' _ wr => ∃ (x : Nat) (f : Nat → Value), j + 1 ≤ x ∧ x ≤ n ∧ j' = .int .i64 x ∧ i = .int .i64 (keep p z x).length ∧ DelR p z n g c w x f wr) (fun _ j' _ _ => n - (intOf j').toNat)
    case atStart => exact ⟨j + 1, f, Nat.le_refl _, hj, by go_num, by rw [HK.out], HD1.out⟩
    case round =>
      obtain ⟨x, f, hx1, hx2, rfl, rfl, hD⟩ := hrel
      have hkl := keep_le p z x
      by_cases hlt : x < n
      · have hcx : wr.cell? ⟨g, x, none⟩ = some (.int .i64 (z x)) := by rw [hD.row.cell (by omega), hD.todo x (Nat.le_refl _) hlt]
        have HC := hid (HP.out wr (HB.out.grown hD.grown HB.out.size (fun k e => by cases e; exact hg)) (z x) (HZ.out x hlt))
        have hck := hD.row.cell (i := (keep p z x).length) (by omega)
        have hfk := hD.row.frozen (keep p z x).length
        have HD := hid hD
        clear hD
        cases hpx : p (z x) with
        | true =>
          have HKS : Hid ((keep p z (x + 1)).length = (keep p z x).length) := by unfold Hid; rw [keep_succ, if_pos hpx, List.append_nil]
          go_wp2_with fail
          refine HC.out.mono ?_
          rintro e w' ⟨rfl, q', hw⟩
          subst hw
          rw [hpx]
          have HN := hid (HD.out.skip hpx q')
          go_wp2
          go_roundw
          case rel => exact ⟨x + 1, f, by omega, by omega, by go_num, by rw [HKS.out], HN.out⟩
          case measure => simp [intOf]; omega
        | false =>
          have HKS : Hid ((keep p z (x + 1)).length = (keep p z x).length + 1) := by unfold Hid; rw [keep_succ, if_neg (by simp [hpx])]; simp
          go_wp2_with fail
          refine HC.out.mono ?_
          rintro e w' ⟨rfl, q', hw⟩
          subst hw
          rw [hpx]
          have HN := hid (HD.out.take hpx q')
          generalize f (keep p z x).length = old at hck
          go_wp2
          go_roundw
          case rel => exact ⟨x + 1, _, by omega, by omega, by go_num, by rw [HKS.out]; go_num, HN.out⟩
          case measure => simp [intOf]; omega
      · have hxe : x = n := by omega
        subst hxe
        have hkl2 := HK2.out x (by omega)
        have hcl : ∀ ty, (Builtin.clear_ #[24] ty #[.slice (some ⟨g, (keep p z x).length, none⟩) (x - (keep p z x).length) (c - (keep p z x).length)]).run Try.prog wr = .ok (.tuple #[]) (wr.setCells g (keep p z x).length (List.replicate (x - (keep p z x).length) (.int .i64 0))) :=
          fun ty => Lib.run_clear_slice wr 24 3 ty (.int .i64 0) Try.underlying24 zero3 rfl rfl g _ _ _ (by omega) (fun t ht => by rw [hD.row.cell (by omega)]; rfl) (fun t ht => hD.row.frozen _)
        have HD := hid hD
        clear hD
        generalize hkn : (keep p z x).length = kl at *
        have HKN := hid hkn
        clear hkn
        go_wp2
        go_ret
        exact DelR.ends HD.out HKN.out
  · have hjm : ((-1 : Int) == -1) = true := by decide
    have HN := hid hnone
    clear hnone
    go_wp2
    go_ret
    exact DelP.same HROW.out HF.out HN.out

theorem owns_row {w : World} {base : Nat} {e : TypeId} {s : Option Addr} {n c : Nat} {V : Nat → Value} (h : w.ownsRow base e 1 (.slice s n c) n ((List.range n).map V)) (h0 : 0 < n) :
    ∃ g f, s = some ⟨g, 0, none⟩ ∧ base ≤ g ∧ n ≤ c ∧ w.rowIs g e c f ∧ ∀ j, j < n → f j = V j := by
  rcases h.2 with ⟨_, hz⟩ | ⟨g, cap, cur, hv, hb, hg, h1, _, hcs, htake⟩
  · omega
  · cases hv
    refine ⟨g, fun j => cur[j]?.getD (.bool false), rfl, hb, h1, ⟨cur, hg, by omega, fun i hi => ?_⟩, fun j hj => ?_⟩
    · show cur[i]? = some (cur[i]?.getD (.bool false))
      rw [Array.getElem?_eq_getElem (by omega)]; rfl
    · have hc : cur.toList[j]? = some (V j) := by
        have := congrArg (fun l => l[j]?) htake
        simp only [List.getElem?_take] at this
        rw [if_pos (by omega)] at this
        rw [this]
        simp [hj]
      rw [Array.getElem?_toList] at hc
      show cur[j]?.getD (.bool false) = V j
      rw [hc]; rfl

def CloneP (z : Nat → Nat) (n : Nat) (w : World) (e : Ending) (w' : World) : Prop := ∃ g c f, e = .returned (.slice (some ⟨g, 0, none⟩) n c) ∧ w'.rowIs g 3 c f ∧ (∀ j, j < n → f j = .int .i64 (z j)) ∧ n ≤ c ∧ w.heap.size ≤ g ∧ Below w.heap.size w w'
theorem CloneP.mk {z : Nat → Nat} {n : Nat} {w w' : World} {s : Option Addr} {c : Nat} (h0 : 0 < n) (h : w'.ownsRow w.heap.size 3 1 (.slice s n c) n ((List.range n).map fun j => .int .i64 (z j))) (hb : Below w.heap.size w w') : CloneP z n w (.returned (.slice s n c)) w' := by
  obtain ⟨g, f, rfl, h1, h2, h3, h4⟩ := owns_row h h0
  exact ⟨g, c, f, rfl, h3, h4, h2, h1, hb⟩

set_option maxRecDepth 100000 in
set_option maxHeartbeats 1000000 in
/-- slices.Clone of a slice that is not nil and not empty: the same numbers in a row of the call's own. -/
theorem clone_any (y : Sl) (z : Nat → Nat) (w : World) (hy : y.Has w fun j => .int .i64 (z j)) (h0 : 0 < y.n) (hn : y.n ≤ 4398046511104) :
    Calls Try.prog 43 #[.slice y.s y.n y.c] w (CloneP z y.n w) := by
  have heq := fun w => Lib.run_eql_slice_nil (P := Try.prog) w 24 3 y.s y.n y.c 0 0 Try.underlying24
  have hsn : y.s.isNone = false := by rw [(hy.row 0 h0).1]; rfl
  have HS := hid (hy.row 0 h0).1
  have HY := hid hy
  obtain ⟨i2, ji, jz0, jz1, jz2⟩ := info_parts info3
  clear hy
  go_enter Try.func43, Try.ntmps43
  go_wp2_with (at_builtin; refine wpList_append_new _ rfl (.tmp 5) (.tmp 6) 24 rfl w.heap.size 3 i2 (.int .i64 0) 1 8 Try.underlying24 ji jz0 jz1 jz2 rfl (by decide) (.slice (some ⟨w.heap.size, 0, none⟩) 0 0) 0 [] rfl ?po y.s ⟨y.b, y.off, none⟩ y.n y.c ((List.range y.n).map fun i => .int .i64 (z i)) rfl HS.out ?p0 ?p1 ?p2 ?p3 ?p4 ?p5 ?_)
  case po => exact World.ownsRow_made _ _ _ (Nat.le_refl _) (by unfold maxLen; omega) rfl
  case p0 => simp
  case p1 =>
    intro j u hj
    have hjl : j < y.n := by
      have := (List.getElem?_eq_some_iff.1 hj).1
      simpa using this
    simp [hjl] at hj
    subst hj
    rw [Addr.add_lit, World.cell?_alloc_past _ _ _ (HY.out.blk hjl)]
    exact HY.out.cell hjl
  case p2 =>
    intro u hu
    obtain ⟨_, _, rfl⟩ := List.mem_map.1 hu
    rfl
  case p3 => unfold maxLen; omega
  case p4 => omega
  case p5 => simp
  intro s' c' w2 hown hg _
  have HN := hid (CloneP.mk (z := z) h0 hown (Below.grown ((Below.refl _ _).alloc (Nat.le_refl _) _) hg (by simp) (fun k e => by simp [Value.ownBlock] at e; omega)))
  clear hown hg
  go_wp2
  go_ret
  exact HN.out
end Go.Proofs.Qxb6601102a
