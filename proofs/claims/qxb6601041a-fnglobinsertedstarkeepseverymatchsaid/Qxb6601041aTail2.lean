/-
  Seat b6601041a: the tail sorted, compacted, put back: the calls.
-/
import Derived.Test.Qxb6601041aTail
namespace Go.Proofs.Qxb6601041a
open Go.RowKit Go.Sort Go.Lib

set_option maxRecDepth 100000 in
set_option maxHeartbeats 2000000 in
theorem insert_nil (w : World) : Calls Try.prog 56 #[.slice none 0 0, .int .i64 0, .int .i64 0] w fun e w' => e = .returned (.tuple #[]) ∧ w' = w := by
  go_enter Try.func56, Try.ntmps56
  go_wp2
  go_loopw [6] (fun a wr => a = .int .i64 1 ∧ wr = w) (fun _ _ => 0)
  case atStart => exact ⟨rfl, rfl⟩
  case round =>
  obtain ⟨rfl, rfl⟩ := hrel
  go_wp2
  go_end0
  exact ⟨rfl, rfl⟩

set_option maxRecDepth 100000 in
set_option maxHeartbeats 2000000 in
theorem pdq_nil (w : World) : Calls Try.prog 52 #[.slice none 0 0, .int .i64 0, .int .i64 0, .int .i64 0] w fun e w' => e = .returned (.tuple #[]) ∧ w' = w := by
  go_enter Try.func52, Try.ntmps52
  go_wp2
  go_loopw [1, 2, 3, 8, 9] (fun a b c d e wr => a = .int .i64 0 ∧ b = .int .i64 0 ∧ c = .int .i64 0 ∧ d = .bool true ∧ e = .bool true ∧ wr = w) (fun _ _ _ _ _ _ => 0)
  case atStart => exact ⟨rfl, rfl, rfl, rfl, rfl, rfl⟩
  case round =>
  obtain ⟨rfl, rfl, rfl, rfl, rfl, rfl⟩ := hrel
  go_wp2_with (go_at_call 56; refine (insert_nil _).mono ?_; rintro e w' ⟨rfl, rfl⟩)
  (try simp only [Exit.inBlock, Exit.then]); refine bodyPost_ret (results_none rfl _ _ _) rfl ?_
  exact ⟨rfl, rfl⟩

set_option maxRecDepth 100000 in
set_option maxHeartbeats 2000000 in
theorem sort_nil (w : World) : Calls Try.prog 49 #[.slice none 0 0] w fun e w' => e = .returned (.tuple #[]) ∧ w' = w := by
  have hLen : ∀ w, Calls Try.prog 53 #[.int .u64 (0 : Int)] w fun e w' => e = .returned (.int .i64 0) ∧ w' = w := fun w => by
    have h := so_bits_Len (0 : Int) w (by omega) (by omega)
    have hb : Lib.bitLen 0 = 0 := by decide
    simpa [hb] using h
  go_enter Try.func49, Try.ntmps49
  go_wp2_with (first | (go_at_call 53; refine (hLen _).mono ?_; rintro e w' ⟨rfl, rfl⟩) | (go_at_call 52; refine (pdq_nil _).mono ?_; rintro e w' ⟨rfl, rfl⟩))
  go_end0
  exact ⟨rfl, rfl⟩

set_option maxRecDepth 100000 in
set_option maxHeartbeats 2000000 in
theorem compact_nil (w : World) : Calls Try.prog 50 #[.slice none 0 0] w fun e w' => e = .returned (.slice none 0 0) ∧ w' = w := by
  go_enter Try.func50, Try.ntmps50
  go_wp2
  go_ret
  exact ⟨rfl, rfl⟩

/-- Where the tail of a row lies. -/
def TailAt (v : Value) (n fr : Nat) (x : Sl) : Prop :=
  (v = .slice none 0 0 ∧ n = 0 ∧ x.s = none) ∨ ∃ g cap, v = .slice (some ⟨g, 0, none⟩) n cap ∧ x.s = some ⟨g, x.off, none⟩ ∧ x.b = g ∧ (x.n ≠ 0 → x.off = fr)

def SortT (w : World) (base : Nat) (v : Value) (n : Nat) (hd : List Value) (zs : List Int) (e : Ending) (w' : World) : Prop :=
  e = .returned (.tuple #[]) ∧ ∃ ys : List Int, ys.length = zs.length ∧ (∀ x, x ∈ ys ↔ x ∈ zs) ∧ ys.Pairwise (· ≤ ·) ∧ w'.ownsRow base 21 1 v n (hd ++ ys.map (Value.int .i32)) ∧ w.grownBy w' v.ownBlock

theorem sort_tail {w : World} {base : Nat} {v : Value} {n fr : Nat} {xs : List Value} (hown : w.ownsRow base 21 1 v n xs) {x : Sl} (ht : TailAt v n fr x) (hxn : x.n = n - fr) (hc0 : x.s = none → x.c = 0) (zs : List Int) (hz : xs.drop fr = zs.map (Value.int .i32)) (hn : fr + zs.length = n) (hbig : n ≤ 1073741824) :
    Calls Try.prog 49 #[.slice x.s x.n x.c] w (SortT w base v n (xs.take fr) zs) := by
  rcases ht with ⟨rfl, rfl, hs⟩ | ⟨g, cap, rfl, hs, hb, hoff⟩
  · have h0 : x.n = 0 := by omega
    have hzs : zs = [] := List.eq_nil_of_length_eq_zero (by omega)
    rw [hs, h0, hc0 hs]
    refine (sort_nil w).mono ?_
    rintro e w' ⟨rfl, rfl⟩
    subst hzs
    have hxs : xs = [] := List.eq_nil_of_length_eq_zero (by simpa using hown.1)
    subst hxs
    exact ⟨rfl, [], rfl, fun x => Iff.rfl, List.Pairwise.nil, by simpa using hown, ⟨rfl, rfl, rfl, Nat.le_refl _, fun _ _ _ => rfl⟩⟩
  · have hlen : zs.length = x.n := by omega
    have hoff' : zs ≠ [] → x.off = fr := fun h => hoff (fun e => h (List.eq_nil_of_length_eq_zero (by omega)))
    have hgl : g < w.heap.size := (hown.lt g rfl).2
    rw [hs, ← hlen]
    refine (sort_runes g x.off x.c zs w (holds_tail hown zs hz hn hoff') hgl (by omega)).mono ?_
    rintro e w' ⟨rfl, q, os, rfl⟩
    have hl2 : (zs.mergeSort fun x y => decide (x ≤ y)).length = zs.length := List.length_mergeSort _
    refine ⟨rfl, zs.mergeSort fun x y => decide (x ≤ y), hl2, fun x => List.mem_mergeSort, ?_, ?_, grown_put _⟩
    · have := List.pairwise_mergeSort (le := fun x y : Int => decide (x ≤ y)) (fun a b c h1 h2 => by simp at h1 h2 ⊢; omega) (fun a b => by simp; omega) zs
      exact this.imp (fun h => by simpa using h)
    · exact own_put hown _ (by omega) (fun h => hoff' (fun e => h (List.eq_nil_of_length_eq_zero (by rw [hl2, e]; rfl))))

def CompT (w : World) (base : Nat) (v : Value) (n : Nat) (hd : List Value) (ys : List Int) (x : Sl) (e : Ending) (w' : World) : Prop :=
  ∃ (cs : List Int) (zz : List Value), e = .returned (.slice x.s cs.length x.c) ∧ cs.length ≤ ys.length ∧ (∀ x, x ∈ cs ↔ x ∈ ys) ∧ cs.Pairwise (· < ·) ∧ w'.ownsRow base 21 1 v n (hd ++ cs.map (Value.int .i32) ++ zz) ∧ w.grownBy w' v.ownBlock

theorem compactUpTo_le (d : Array Int) (m : Nat) : (compactUpTo d m).length ≤ m := by
  unfold compactUpTo
  rw [List.length_map]
  exact Nat.le_trans (List.length_filter_le _ _) (by simp)

theorem compact_tail {w : World} {base : Nat} {v : Value} {n fr : Nat} {hd : List Value} {ys : List Int} (hown : w.ownsRow base 21 1 v n (hd ++ ys.map (Value.int .i32))) (hfr : hd.length = fr) {x : Sl} (ht : TailAt v n fr x) (hxn : x.n = n - fr) (hxc : x.n ≤ x.c) (hc0 : x.s = none → x.c = 0) (hs : ys.Pairwise (· ≤ ·)) (hbig : n ≤ 1073741824) :
    Calls Try.prog 50 #[.slice x.s x.n x.c] w (CompT w base v n hd ys x) := by
  have hl := hown.1
  simp at hl
  rcases ht with ⟨rfl, rfl, hsn⟩ | ⟨g, cap, rfl, hsn, hb, hoff⟩
  · have h0 : x.n = 0 := by omega
    have hzs : ys = [] := List.eq_nil_of_length_eq_zero (by omega)
    have hhd : hd = [] := List.eq_nil_of_length_eq_zero (by omega)
    rw [hsn, h0, hc0 hsn]
    refine (compact_nil w).mono ?_
    rintro e w' ⟨rfl, rfl⟩
    subst hzs hhd
    exact ⟨[], [], by rw [hsn, hc0 hsn]; rfl, Nat.le_refl _, fun x => Iff.rfl, List.Pairwise.nil, by simpa using hown, ⟨rfl, rfl, rfl, Nat.le_refl _, fun _ _ _ => rfl⟩⟩
  · have hlen : ys.length = x.n := by omega
    have hoff' : ys ≠ [] → x.off = fr := fun h => hoff (fun e => h (List.eq_nil_of_length_eq_zero (by omega)))
    have hgl : g < w.heap.size := (hown.lt g rfl).2
    have hdrop : (hd ++ ys.map (Value.int .i32)).drop fr = ys.map (Value.int .i32) := by rw [← hfr]; exact List.drop_left
    have htake : (hd ++ ys.map (Value.int .i32)).take fr = hd := by rw [← hfr]; exact List.take_left
    have hH := holds_tail hown ys hdrop (by omega) hoff'
    rw [hsn, ← hlen]
    have hsz : ys.toArray.size = ys.length := by simp
    rw [← hsz]
    refine (compact_any g x.off x.c ys.toArray w hH (by simp; omega) (by simp; omega)).mono ?_
    rintro e w' ⟨rfl, q, rfl⟩
    have hcle := compactUpTo_le ys.toArray ys.toArray.size
    obtain ⟨k1, k2, _⟩ := compact_sorted ys.toArray (fun i j hij hj => by
      have hj' : j < ys.length := by simpa using hj
      have := (List.pairwise_iff_getElem.1 hs) i j (by omega) hj' hij
      simpa [getElem!_pos, show i < ys.length by omega, hj'] using this) ys.toArray.size (Nat.le_refl _)
    refine ⟨compactUpTo ys.toArray ys.toArray.size, (List.replicate (ys.toArray.size - (compactUpTo ys.toArray ys.toArray.size).length) (0 : Int)).map (Value.int .i32), by rw [hsn], by simpa using hcle, fun z => ?_, k1, ?_, ?_⟩
    · rw [k2]
      constructor
      · rintro ⟨j, h1, rfl⟩
        have hj' : j < ys.length := by simpa using h1
        simp [getElem!_pos, hj']
      · intro h
        obtain ⟨j, h1, h2⟩ := List.getElem_of_mem h
        exact ⟨j, by simpa using h1, by simpa [getElem!_pos, h1] using h2⟩
    · have := own_put (q := q) (os := #[]) (off := x.off) hown (compactUpTo ys.toArray ys.toArray.size ++ List.replicate (ys.toArray.size - (compactUpTo ys.toArray ys.toArray.size).length) 0) (fr := fr) (by simp at hcle ⊢; omega) (fun h => hoff' (fun e => h (by subst e; rfl)))
      rw [htake, grow_empty, List.map_append, ← List.append_assoc] at this
      exact this
    · have := grown_put (w := w) (g := g) (off := x.off) (q := q) (os := #[]) (compactUpTo ys.toArray ys.toArray.size ++ List.replicate (ys.toArray.size - (compactUpTo ys.toArray ys.toArray.size).length) 0).toArray
      rw [grow_empty] at this
      exact this

/-- The compacted tail put back behind the head. -/
theorem append_tail {w : World} {base : Nat} {v : Value} {n fr : Nat} {hd : List Value} {cs : List Int} {zz : List Value} (hown : w.ownsRow base 21 1 v n (hd ++ cs.map (Value.int .i32) ++ zz)) (hfr : hd.length = fr) {x : Sl} (ht : TailAt v n fr x) (hxn : x.n = n - fr) (hc0 : x.s = none → x.c = 0)
    {s : Option Addr} {c : Nat} (hs : (Value.slice s fr c).ownBlock = v.ownBlock) (hu : w.ownsRow base 21 1 (.slice s fr c) fr hd) (hbig : n ≤ 1073741824) (hbase : base ≤ w.heap.size) (ty : TypeId) :
    ∃ v' w', (Builtin.append_ #[22, 22] ty #[.slice s fr c, .slice x.s cs.length x.c]).run Try.prog w = .ok v' w' ∧ w'.ownsRow base 21 1 v' (fr + cs.length) (hd ++ cs.map (Value.int .i32)) ∧ w.grownBy w' v.ownBlock ∧ OldOrNew w v v' := by
  obtain ⟨i0, hi, hz0, hz1, hz2⟩ := info_parts info21
  have hl := hown.1
  simp at hl
  rcases ht with ⟨rfl, rfl, hsn⟩ | ⟨g, cap, rfl, hsn, hb, hoff⟩
  · have hzs : cs = [] := List.eq_nil_of_length_eq_zero (by omega)
    subst hzs
    rw [hsn, hc0 hsn]
    refine ⟨.slice s fr c, w, run_append_owned_none (P := Try.prog) w base 22 ty 21 i0 1 Try.underlying22 hi _ _ _ hu, by simpa using hu, ⟨rfl, rfl, rfl, Nat.le_refl _, fun _ _ _ => rfl⟩, Or.inl hs⟩
  · rw [hsn]
    obtain ⟨v', w', h1, h2, h3, h4⟩ := run_append_new (P := Try.prog) w base 22 ty 21 i0 (.int .i32 0) 1 4 Try.underlying22 hi hz0 hz1 hz2 rfl (by decide) (.slice s fr c) fr hd hu ⟨g, x.off, none⟩ cs.length x.c (cs.map (Value.int .i32)) (by simp) (fun j u hj => by
      have hjl : j < cs.length := by
        have := (List.getElem?_eq_some_iff.1 hj).1
        simpa using this
      have hx0 : x.n ≠ 0 := by omega
      rw [hoff hx0]
      have e1 : (⟨g, fr, none⟩ : Addr).add j = ⟨g, fr + j, none⟩ := by simp [Addr.add]
      rw [e1, hown.cellAt (fr + j) (by omega), List.append_assoc, List.getElem?_append_right (by omega), hfr, Nat.add_sub_cancel_left, List.getElem?_append_left (by simpa using hjl)]
      exact hj) (fun u hu => by
      obtain ⟨z, _, rfl⟩ := List.mem_map.1 hu
      rfl) (by unfold maxLen; omega) (by omega) hbase
    refine ⟨v', w', h1, h2, by rw [← hs]; exact h3, ?_⟩
    rcases h4 with h4 | h4
    · exact Or.inl (h4.trans hs)
    · exact Or.inr h4
/-- What the tail holds. -/
theorem tail_has {w : World} {base : Nat} {e : TypeId} {v : Value} {n fr : Nat} {hd : List Value} {F : Nat → Value} {k : Nat} (hown : w.ownsRow base e 1 v n (hd ++ (List.range k).map F)) (hfr : hd.length = fr) {x : Sl} (ht : TailAt v n fr x) (hxn : x.n = n - fr) (hbig : n ≤ 1073741824) : x.Has w F := by
  have hl := hown.1
  simp at hl
  rcases ht with ⟨rfl, rfl, hsn⟩ | ⟨g, cap, rfl, hsn, hb, hoff⟩
  · exact ⟨fun i hi => by omega, by omega⟩
  · refine ⟨fun i hi => ?_, by omega⟩
    have ho := hoff (by omega)
    rw [hb, ho]
    rw [ho] at hsn
    refine ⟨hsn, ?_⟩
    rw [hown.cellAt (fr + i) (by omega), List.getElem?_append_right (by omega), hfr, Nat.add_sub_cancel_left]
    simp [show i < k by omega]
end Go.Proofs.Qxb6601041a
