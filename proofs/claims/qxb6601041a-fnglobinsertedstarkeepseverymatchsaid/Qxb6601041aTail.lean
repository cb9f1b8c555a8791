/-
  Seat b6601041a: THE TAIL OF A ROW OF RUNES THAT THE CALL OWNS: sliced off, sorted, compacted, put back.
-/
import Derived.Test.Qxb6601041aAppend
import Derived.Test.Qxb6601041aSrtTop
import Derived.Test.Qxb6601041aShelf2
namespace Go.Proofs.Qxb6601041a
open Go.RowKit Go.Sort Go.Lib

/-- A sorted list compacted: strictly ascending, the same elements. -/
theorem compact_sorted (d : Array Int) (hs : ∀ i j, i < j → j < d.size → d[i]! ≤ d[j]!) : ∀ m, m ≤ d.size → (compactUpTo d m).Pairwise (· < ·) ∧ (∀ x, x ∈ compactUpTo d m ↔ ∃ j, j < m ∧ d[j]! = x) ∧ (0 < m → ∀ x ∈ compactUpTo d m, x ≤ d[m - 1]!)
  | 0, _ => by
    have h0 : compactUpTo d 0 = [] := rfl
    rw [h0]
    exact ⟨List.Pairwise.nil, fun x => by simp, fun h => absurd h (Nat.lt_irrefl _)⟩
  | m + 1, hm => by
    obtain ⟨h1, h2, h3⟩ := compact_sorted d hs m (by omega)
    rw [compactUpTo_succ]
    cases hk : keeps d m with
    | true =>
      simp only [if_true]
      have hlt : ∀ x ∈ compactUpTo d m, x < d[m]! := fun x hx => by
        have hm0 : 0 < m := by
          rcases Nat.eq_zero_or_pos m with rfl | h
          · exact absurd hx (by simp [compactUpTo])
          · exact h
        have h4 := h3 hm0 x hx
        have h5 : d[m]! ≠ d[m - 1]! := by
          intro e
          unfold keeps at hk
          simp at hk
          rcases hk with h | h
          · omega
          · exact h e
        have h6 := hs (m - 1) m (by omega) (by omega)
        omega
      refine ⟨List.pairwise_append.2 ⟨h1, by simp, fun a ha b hb => ?_⟩, fun x => ?_, fun _ x hx => ?_⟩
      · simp at hb
        subst hb
        exact hlt a ha
      · rw [List.mem_append, h2]
        simp only [List.mem_singleton]
        constructor
        · rintro (⟨j, h4, h5⟩ | h4)
          · exact ⟨j, by omega, h5⟩
          · exact ⟨m, by omega, h4.symm⟩
        · rintro ⟨j, h4, h5⟩
          rcases Nat.lt_or_ge j m with h6 | h6
          · exact Or.inl ⟨j, h6, h5⟩
          · obtain rfl : j = m := by omega
            exact Or.inr h5.symm
      · rw [Nat.add_sub_cancel]
        rcases List.mem_append.1 hx with h4 | h4
        · exact Int.le_of_lt (hlt x h4)
        · simp at h4
          omega
    | false =>
      have hke : 0 < m ∧ d[m]! = d[m - 1]! := by
        unfold keeps at hk
        simp at hk
        exact ⟨by omega, hk.2⟩
      simp only [Bool.false_eq_true, if_false, List.append_nil]
      refine ⟨h1, fun x => ?_, fun _ x hx => ?_⟩
      · rw [h2]
        constructor
        · rintro ⟨j, h4, h5⟩
          exact ⟨j, by omega, h5⟩
        · rintro ⟨j, h4, h5⟩
          rcases Nat.lt_or_ge j m with h6 | h6
          · exact ⟨j, h6, h5⟩
          · obtain rfl : j = m := by omega
            exact ⟨j - 1, by omega, by rw [← hke.2]; exact h5⟩
      · rw [Nat.add_sub_cancel, hke.2]
        exact h3 hke.1 x hx

/-- The tail of a row, as a slice. -/
theorem slice_tail {w : World} {base : Nat} {v : Value} {n : Nat} {xs : List Value} (hown : w.ownsRow base 21 1 v n xs) {fr : Nat} (hf : fr ≤ n) (hn : n ≤ 1073741824) :
    ∃ x : Sl, x.n = n - fr ∧ x.n ≤ x.c ∧ (x.s = none → x.c = 0) ∧ (∀ w', (Instr.slice 22 v (some (.int .i64 fr)) none none).run Try.prog w' = .ok (.slice x.s x.n x.c) w') ∧
      ((v = .slice none 0 0 ∧ n = 0 ∧ x.s = none) ∨ ∃ g cap, v = .slice (some ⟨g, 0, none⟩) n cap ∧ x.s = some ⟨g, x.off, none⟩ ∧ x.b = g ∧ (x.n ≠ 0 → x.off = fr)) := by
  rcases hown.2 with ⟨rfl, rfl⟩ | ⟨g, cap, cur, rfl, hbg, hg, hnc, hcm, hcs, htake⟩
  · obtain rfl : fr = 0 := by omega
    refine ⟨⟨none, 0, 0, 0, 0⟩, rfl, Nat.le_refl _, fun _ => rfl, fun w' => ?_, Or.inl ⟨rfl, rfl, rfl⟩⟩
    simp [Instr.slice, run_underlying Try.underlying22, Instr.sliceBounds, Instr.sliceBound, asIntOf, go_sem]
  · refine ⟨⟨some ⟨g, if cap = fr then 0 else fr, none⟩, n - fr, cap - fr, g, if cap = fr then 0 else fr⟩, rfl, by simp only []; omega, nofun, fun w' => ?_, Or.inr ⟨g, cap, rfl, rfl, rfl, fun h => ?_⟩⟩
    · simp [Instr.slice, run_underlying Try.underlying22, Instr.sliceBounds, Instr.sliceBound, asIntOf, go_sem]
      rw [if_pos hf]
      by_cases h : cap = fr
      · simp [h]
      · simp [h]
    · simp only [] at h ⊢
      rw [if_neg (by omega)]

/-- The like of words. -/
theorem slice_tail45 {w : World} {base : Nat} {v : Value} {n : Nat} {xs : List Value} (hown : w.ownsRow base 65 1 v n xs) {fr : Nat} (hf : fr ≤ n) (hn : n ≤ 1073741824) :
    ∃ x : Sl, x.n = n - fr ∧ x.n ≤ x.c ∧ (x.s = none → x.c = 0) ∧ (∀ w', (Instr.slice 45 v (some (.int .i64 fr)) none none).run Try.prog w' = .ok (.slice x.s x.n x.c) w') ∧
      ((v = .slice none 0 0 ∧ n = 0 ∧ x.s = none) ∨ ∃ g cap, v = .slice (some ⟨g, 0, none⟩) n cap ∧ x.s = some ⟨g, x.off, none⟩ ∧ x.b = g ∧ (x.n ≠ 0 → x.off = fr)) := by
  rcases hown.2 with ⟨rfl, rfl⟩ | ⟨g, cap, cur, rfl, hbg, hg, hnc, hcm, hcs, htake⟩
  · obtain rfl : fr = 0 := by omega
    refine ⟨⟨none, 0, 0, 0, 0⟩, rfl, Nat.le_refl _, fun _ => rfl, fun w' => ?_, Or.inl ⟨rfl, rfl, rfl⟩⟩
    simp [Instr.slice, run_underlying Try.underlying45, Instr.sliceBounds, Instr.sliceBound, asIntOf, go_sem]
  · refine ⟨⟨some ⟨g, if cap = fr then 0 else fr, none⟩, n - fr, cap - fr, g, if cap = fr then 0 else fr⟩, rfl, by simp only []; omega, nofun, fun w' => ?_, Or.inr ⟨g, cap, rfl, rfl, rfl, fun h => ?_⟩⟩
    · simp [Instr.slice, run_underlying Try.underlying45, Instr.sliceBounds, Instr.sliceBound, asIntOf, go_sem]
      rw [if_pos hf]
      by_cases h : cap = fr
      · simp [h]
      · simp [h]
    · simp only [] at h ⊢
      rw [if_neg (by omega)]

/-- Its head. -/
theorem slice_head {w : World} {base : Nat} {v : Value} {n : Nat} {xs : List Value} (hown : w.ownsRow base 21 1 v n xs) {fr : Nat} (hf : fr ≤ n) :
    ∃ s c, (∀ w', (Instr.slice 22 v none (some (.int .i64 fr)) none).run Try.prog w' = .ok (.slice s fr c) w') ∧ (Value.slice s fr c).ownBlock = v.ownBlock ∧
      ∀ (w' : World) (ys : List Value), w'.ownsRow base 21 1 v n ys → w'.ownsRow base 21 1 (.slice s fr c) fr (ys.take fr) := by
  rcases hown.2 with ⟨rfl, rfl⟩ | ⟨g, cap, cur, rfl, hbg, hg, hnc, hcm, hcs, htake⟩
  · obtain rfl : fr = 0 := by omega
    refine ⟨none, 0, fun w' => ?_, rfl, fun w' ys h => by rw [List.take_zero]; exact World.ownsRow_nil w' base 21 1⟩
    simp [Instr.slice, run_underlying Try.underlying22, Instr.sliceBounds, Instr.sliceBound, asIntOf, go_sem]
  · refine ⟨some ⟨g, 0, none⟩, cap, fun w' => ?_, rfl, fun w' ys h => ?_⟩
    · simp [Instr.slice, run_underlying Try.underlying22, Instr.sliceBounds, Instr.sliceBound, asIntOf, go_sem]
      intro h
      omega
    · rcases h.2 with ⟨h1, _⟩ | ⟨g', cap', cur', h1, k1, k2, k3, k4, k5, k6⟩
      · cases h1
      · cases h1
        refine ⟨by rw [List.length_take, h.1]; omega, Or.inr ⟨g, cap, cur', rfl, k1, k2, by omega, k4, k5, ?_⟩⟩
        rw [← k6, List.take_take]
        congr 1
        omega

theorem own_mk1 {w : World} {base g cap n : Nat} {e : TypeId} {xs : List Value} {cur : Array Value} (hb : base ≤ g) (hg : w.heap[g]? = some (.cells cur e (0, 0))) (hcs : cur.size = cap) (hnc : n ≤ cap) (hcm : cap ≤ maxLen) (hl : xs.length = n) (hc : ∀ j, j < n → cur[j]? = xs[j]?) :
    w.ownsRow base e 1 (.slice (some ⟨g, 0, none⟩) n cap) n xs := by
  refine ⟨by omega, Or.inr ⟨g, cap, cur, rfl, hb, hg, hnc, hcm, by omega, ?_⟩⟩
  apply List.ext_getElem?
  intro j
  rw [Nat.mul_one]
  by_cases hj : j < n
  · rw [List.getElem?_take_of_lt hj, Array.getElem?_toList, hc j hj]
  · rw [List.getElem?_take_eq_none (by omega), List.getElem?_eq_none (by omega)]

theorem heap_put {w : World} {g off q : Nat} {os : Array Obj} {cur : Array Value} {e : TypeId} (d : Array Int) (hb : w.heap[g]? = some (.cells cur e (0, 0))) :
    (grow (putRow (Value.int .i32) (Sort.ahead w q) g off d) os).heap[g]? = some (.cells (putCells (Value.int .i32) off d cur) e (0, 0)) := by
  have hg : g < w.heap.size := (Array.getElem?_eq_some_iff.1 hb).1
  rw [heap_grow_old _ _ (by simpa using hg)]
  simp [putRow, mapBlock, Sort.ahead, Array.getElem?_modify, hb, onCells]

theorem grown_put {w : World} {g off q : Nat} {os : Array Obj} (d : Array Int) : w.grownBy (grow (putRow (Value.int .i32) (Sort.ahead w q) g off d) os) (some g) := by
  refine ⟨rfl, rfl, rfl, by simp, fun k hk hne => ?_⟩
  rw [heap_grow_old _ _ (by simpa using hk)]
  have : g ≠ k := fun e => hne (by rw [e])
  simp [putRow, mapBlock, Sort.ahead, Array.getElem?_modify, this]

/-- Behind a callee that has laid d over the tail. -/
theorem own_put {w : World} {base g cap n fr off q : Nat} {os : Array Obj} {xs : List Value} (hown : w.ownsRow base 21 1 (.slice (some ⟨g, 0, none⟩) n cap) n xs) (d : List Int) (hn : fr + d.length = n) (hoff : d ≠ [] → off = fr) :
    (grow (putRow (Value.int .i32) (Sort.ahead w q) g off d.toArray) os).ownsRow base 21 1 (.slice (some ⟨g, 0, none⟩) n cap) n (xs.take fr ++ d.map (Value.int .i32)) := by
  rcases hown.2 with ⟨h1, _⟩ | ⟨g', cap', cur, h1, hbg, hg, hnc, hcm, hcs, htake⟩
  · cases h1
  cases h1
  have hl := hown.1
  refine own_mk1 hbg (heap_put d.toArray hg) (by simp [putCells]; omega) hnc hcm (by simp; omega) (fun j hj => ?_)
  have hcur : cur[j]? = xs[j]? := by
    rw [← htake, Nat.mul_one, List.getElem?_take_of_lt hj, Array.getElem?_toList]
  have hjc : j < cur.size := by omega
  rcases Nat.lt_or_ge j fr with h | h
  · rw [List.getElem?_append_left (by simp; omega), List.getElem?_take_of_lt h, ← hcur]
    have : ¬ (off ≤ j ∧ j < off + d.length) := by
      rintro ⟨h2, h3⟩
      by_cases hd : d = []
      · subst hd
        simp at h3
        omega
      · have := hoff hd
        omega
    simp [putCells, hjc, this]
  · have hd : d ≠ [] := by
      intro e
      subst e
      simp at hn
      omega
    have ho := hoff hd
    subst ho
    rw [List.getElem?_append_right (by simp; omega)]
    have e1 : (xs.take off).length = off := by simp; omega
    rw [e1]
    have h2 : off ≤ j ∧ j < off + d.length := ⟨h, by omega⟩
    simp [putCells, hjc, h2, show j - off < d.length by omega]

theorem holds_tail {w : World} {base g cap n fr off : Nat} {xs : List Value} (hown : w.ownsRow base 21 1 (.slice (some ⟨g, 0, none⟩) n cap) n xs) (zs : List Int) (hz : xs.drop fr = zs.map (Value.int .i32)) (hn : fr + zs.length = n) (hoff : zs ≠ [] → off = fr) : Holds (Value.int .i32) w g off zs.toArray := by
  intro j hj
  have hj' : j < zs.length := by simpa using hj
  have hd : zs ≠ [] := by intro e; subst e; simp at hj'
  obtain rfl := hoff hd
  refine ⟨?_, hown.frozenAt _⟩
  rw [hown.cellAt (off + j) (by omega)]
  have h1 : (xs.drop off)[j]? = (zs.map (Value.int .i32))[j]? := by rw [hz]
  rw [List.getElem?_drop] at h1
  rw [h1]
  simp [hj']
end Go.Proofs.Qxb6601041a
