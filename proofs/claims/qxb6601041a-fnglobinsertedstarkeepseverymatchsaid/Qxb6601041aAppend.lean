/-
  Seat b6601041a: APPEND ONTO A SLICE OF THE CALL's OWN: where the row lies behind it; of zeros ('append(s, make(..)...)'); a law for a region that draws.
-/
import Derived.Test.Qxb6601041aState
import Derived.Lib.AppendZerosOnto
namespace Go.Proofs.Qxb6601041a
open Go.RowKit

theorem owns_form {w : World} {base : Nat} {e : TypeId} {size : Nat} {v : Value} {n : Nat} {xs : List Value} (h : w.ownsRow base e size v n xs) : ∃ s c, v = .slice s n c := by
  rcases h.2 with ⟨rfl, rfl⟩ | ⟨g, cap, _, rfl, _⟩
  · exact ⟨none, 0, rfl⟩
  · exact ⟨_, _, rfl⟩

/-- Its own block is the old one's, or a new one. -/
def OldOrNew (w : World) (v v' : Value) : Prop := v'.ownBlock = v.ownBlock ∨ ∀ g, v'.ownBlock = some g → w.heap.size ≤ g

theorem run_append_new {P : Program} (w : World) (base : Nat) (t ty e : TypeId) (i : TypeInfo) (z : Value) (size bytes : Nat) (ht : P.underlying t = some (.slice e)) (hi : P.info? e = some i) (hz : i.zero = some z)
    (hsize : i.size = size) (hby : i.bytes = bytes) (hzs : z.cells.size = size) (hsz : 0 < size)
    (v : Value) (n : Nat) (xs : List Value) (hown : w.ownsRow base e size v n xs)
    (a : Addr) (m c : Nat) (news : List Value) (hl : news.length = m * size) (hnews : ∀ j u, news[j]? = some u → w.cell? (a.add j) = some u) (h1 : ∀ u ∈ news, u.oneCell' = true)
    (h63 : n + m ≤ maxLen) (hbytes : (n + m) * bytes ≤ 140737488355328) (hbase : base ≤ w.heap.size) :
    ∃ v' w', (Builtin.append_ #[t, t] ty #[v, .slice (some a) m c]).run P w = .ok v' w' ∧ w'.ownsRow base e size v' (n + m) (xs ++ news) ∧ w.grownBy w' v.ownBlock ∧ OldOrNew w v v' := by
  obtain ⟨v', w', hr, h2, h3, _⟩ := run_append_own (P := P) w base t ty e i z size bytes ht hi hz hsize hby hzs hsz v n xs hown a m c news hl hnews h1 h63 hbytes hbase
  refine ⟨v', w', hr, h2, h3, ?_⟩
  have hown' := hown
  rcases hown.2 with ⟨rfl, rfl⟩ | ⟨g, cap, cur, rfl, hbg, hg, hnc, hcm, hcs, htake⟩
  · right
    have hx : xs = [] := List.eq_nil_of_length_eq_zero (by simpa using hown.1)
    subst hx
    obtain ⟨v2, w2, hr2, h22, _, _⟩ := run_append_own (P := P) w w.heap.size t ty e i z size bytes ht hi hz hsize hby hzs hsz _ 0 [] (World.ownsRow_nil w w.heap.size e size) a m c news hl hnews h1 h63 hbytes (Nat.le_refl _)
    rw [hr] at hr2
    cases hr2
    exact fun g hg => (h22.lt g hg).1
  · subst hsize
    by_cases hroom : n + m ≤ cap
    · left
      have hfit : n * i.size + news.length ≤ cur.size := by rw [hl, hcs, ← Nat.add_mul]; exact Nat.mul_le_mul_right _ hroom
      have hr2 := run_append_room (P := P) w t ty e i ht hi g n cap cur hg a m c news hl hnews h1 hroom hfit
      rw [hr] at hr2
      cases hr2
      rfl
    · right
      have holds : ∀ j u, xs[j]? = some u → w.cell? ((⟨g, 0, none⟩ : Addr).add j) = some u := hown.cells (g := g) rfl
      have hsmall : n + m ≤ 9223372036854775807 := by simp only [maxLen] at h63; omega
      subst hby
      have hr2 := run_append_grow (P := P) w t ty e i z ht hi hz ⟨g, 0, none⟩ n cap xs hown.1 holds a m c news hl hnews (by omega) (by omega) (growslice_fits (by omega) hbytes)
      rw [hr] at hr2
      cases hr2
      intro g' hg'
      simp [Value.ownBlock] at hg'
      omega


theorem zeroCells_one (z : Value) (k : Nat) : Builtin.zeroCells #[z] k = (List.replicate k z).toArray := by
  apply Array.ext'
  apply List.ext_getElem
  · simp [Builtin.zeroCells]
  · intro i h1 h2
    simp [Builtin.zeroCells, Nat.mod_one]

/-- There is room for k zeros more. -/
theorem run_append_room_zeros {P : Program} (w : World) (t tn ty e : TypeId) (i : TypeInfo) (z : Value) (kq kn : IntKind) (ht : P.underlying t = some (.slice e)) (htn : P.underlying tn = some (.int kn)) (hi : P.info? e = some i) (hz : i.zero = some z) (hs : i.size = 1) (hzc : z.cells = #[z]) (h1 : z.oneCell' = true)
    (g n cap k : Nat) (cur : Array Value) (hg : w.heap[g]? = some (.cells cur e (0, 0))) (hroom : n + k ≤ cap) (hcs : cur.size = cap) (h63 : (k : Int) ≤ 9223372036854775807) (h48 : k * i.bytes ≤ 281474976710656) :
    (Builtin.append_ #[t, tn] ty #[.slice (some ⟨g, 0, none⟩) n cap, .int kq k]).run P w =
      .ok (.slice (some ⟨g, 0, none⟩) (n + k) cap) (w.setRow g (cur.toList.take n ++ List.replicate k z ++ cur.toList.drop (n + k)).toArray) := by
  have hw : IntKind.i64.wrap (k : Int) = k := by rw [IntKind.wrap_i64]; omega
  have h48i : ¬ (281474976710656 < (k : Int) * (i.bytes : Int)) := by
    rw [← Int.natCast_mul]
    omega
  have hneg : ¬ ((k : Int) < 0) := by omega
  have hst := run_storeCells_at P g n e (List.replicate k z) 0 cur w hg (by simpa [hcs] using hroom) (by intro u hu; rw [List.eq_of_mem_replicate hu]; exact h1)
  simp only [Nat.add_zero, List.length_replicate] at hst
  by_cases hk : k = 0
  · subst hk
    have hw0 : IntKind.i64.wrap 0 = 0 := by decide
    have hn : n ≤ cap := by omega
    simp at hst
    simp [Builtin.append_, run_underlying ht, run_underlying htn, sizeOf, typeInfo, hi, asInt, asIntOf, hw0, hs, hn, Addr.add_lit, hst]
  · simp [Builtin.append_, run_underlying ht, run_underlying htn, sizeOf, typeInfo, zeroValue, hi, hz, asInt, asIntOf, hw, hneg, h48i, hs, hroom, Addr.add_lit, hk, hzc, zeroCells_one, hst]

/-- append(s, make([]T, k)...) onto a row of the call's own. -/
theorem run_append_zeros {P : Program} (w : World) (base : Nat) (t tn ty e : TypeId) (i : TypeInfo) (z : Value) (kq kn : IntKind) (bytes : Nat) (ht : P.underlying t = some (.slice e)) (htn : P.underlying tn = some (.int kn)) (hi : P.info? e = some i) (hz : i.zero = some z) (hs : i.size = 1) (hby : i.bytes = bytes) (hzc : z.cells = #[z]) (h1 : z.oneCell' = true)
    (v : Value) (n : Nat) (xs : List Value) (hown : w.ownsRow base e 1 v n xs) (k : Nat) (h63 : n + k ≤ maxLen) (hbytes : (n + k) * bytes ≤ 140737488355328) (hbase : base ≤ w.heap.size) :
    ∃ v' w', (Builtin.append_ #[t, tn] ty #[v, .int kq k]).run P w = .ok v' w' ∧ w'.ownsRow base e 1 v' (n + k) (xs ++ List.replicate k z) ∧ w.grownBy w' v.ownBlock ∧ OldOrNew w v v' := by
  subst hby
  have hsmall : n + k ≤ 9223372036854775807 := by simp only [maxLen] at h63; omega
  have hkb : k * i.bytes ≤ 281474976710656 := by
    have : k * i.bytes ≤ (n + k) * i.bytes := Nat.mul_le_mul_right _ (by omega)
    omega
  have hlen : (xs ++ List.replicate k z).length = (n + k) * 1 := by rw [List.length_append, hown.1, List.length_replicate]; omega
  have grown : ∀ (old : Nat), ∀ (row : Option Nat),
      (w.drew.alloc (.cells (xs.toArray ++ Builtin.zeroCells z.cells k ++ Builtin.zeroCells z.cells (grownCap w (n + k) old e - (n + k))) e)).ownsRow base e 1
        (.slice (some ⟨w.heap.size, 0, none⟩) (n + k) (grownCap w (n + k) old e)) (n + k) (xs ++ List.replicate k z) ∧
      w.grownBy (w.drew.alloc (.cells (xs.toArray ++ Builtin.zeroCells z.cells k ++ Builtin.zeroCells z.cells (grownCap w (n + k) old e - (n + k))) e)) row := by
    intro old row
    have hge := grownCap_ge w (n + k) old e
    have hcm : grownCap w (n + k) old e ≤ maxLen := grownCap_le_maxLen w (n + k) old e h63
    refine ⟨⟨hlen, .inr ⟨w.heap.size, _, _, rfl, hbase, heap_alloc_new w.drew _, hge, hcm, ?_, ?_⟩⟩, ⟨rfl, rfl, rfl, by simp, fun k' hk _ => Below.heap_alloc w.drew _ k' hk⟩⟩
    · simp only [Array.size_append, List.size_toArray, size_zeroCells, hown.1, hzc, List.length_cons, List.length_nil]
      omega
    · rw [hzc, zeroCells_one, zeroCells_one]
      simp only [Array.toList_append, List.append_assoc]
      rw [← List.append_assoc, ← hlen]
      exact List.take_left
  rcases hown.2 with ⟨rfl, rfl⟩ | ⟨g, cap, cur, rfl, hbg, hg, hnc, hcm, hcs, htake⟩
  · have hx : xs = [] := List.eq_nil_of_length_eq_zero (by simpa using hown.1)
    subst hx
    by_cases hk : k = 0
    · subst hk
      refine ⟨.slice none 0 0, w, ?_, World.ownsRow_nil w base e 1, ⟨rfl, rfl, rfl, Nat.le_refl _, fun _ _ _ => rfl⟩, Or.inl rfl⟩
      have hw : IntKind.i64.wrap 0 = 0 := by decide
      simp [Builtin.append_, run_underlying ht, run_underlying htn, sizeOf, typeInfo, zeroValue, hi, asInt, asIntOf, hw]
    · have hr := Lib.run_append_nil_zeros (P := P) w t tn ty e i z kq kn ht htn hi hz k (by omega) (by omega) (by omega) hkb
      have hgr := grown 0 (Value.ownBlock (.slice none 0 0))
      simp only [Nat.zero_add, List.nil_append, Array.empty_append] at hgr ⊢
      exact ⟨_, _, hr, hgr.1, hgr.2, Or.inr fun g hg => by simp [Value.ownBlock] at hg; omega⟩
  · by_cases hroom : n + k ≤ cap
    · have hr := run_append_room_zeros (P := P) w t tn ty e i z kq kn ht htn hi hz hs hzc h1 g n cap k cur hg hroom (by omega) (by omega) hkb
      refine ⟨_, _, hr, ⟨hlen, .inr ⟨g, cap, _, rfl, hbg, setRow_heap w g cur _ e _ hg, hroom, hcm, ?_, ?_⟩⟩, ⟨rfl, rfl, rfl, by simp, fun k' _ hk => setRow_other w g k' _ (fun e => hk (by simp [Value.ownBlock, e]))⟩, Or.inl rfl⟩
      · simp only [List.size_toArray, List.length_append, List.length_take, List.length_drop, Array.length_toList, List.length_replicate]
        omega
      · rw [Nat.mul_one] at htake
        rw [htake, ← hlen]
        exact List.take_left
    · have holds : ∀ j u, xs[j]? = some u → w.cell? ((⟨g, 0, none⟩ : Addr).add j) = some u := hown.cells (g := g) rfl
      have hold := run_firstCells_some (P := P) w.drew i.size n ⟨g, 0, none⟩ n cap xs (by rw [hs]; exact hown.1) (by simpa using holds)
      have hr := Lib.run_append_grow_zeros (P := P) w t tn ty e i z kq kn ht htn hi hz (some ⟨g, 0, none⟩) n cap xs hold k (by omega) (by omega) (by omega) (by omega) hkb (growslice_fits (by omega) hbytes)
      have hgr := grown cap (Value.ownBlock (.slice (some ⟨g, 0, none⟩) n cap))
      exact ⟨_, _, hr, hgr.1, hgr.2, Or.inr fun g' hg' => by simp [Value.ownBlock] at hg'; omega⟩

/-- An append whose run is known, at a step of a region that draws. -/
theorem step_append_run {P : Program} {ops : Array Oper} {o : Oper} {a : Act} {w : World} {K : Act → World → Prop} {Q : Exit → Act → World → Prop} {E : Prop} (hgd : o.guard = none) (s x : Operand) (t tn : TypeId)
    (ho : o.op = .call { callee := .builtin .append, args := #[s, x], argTypes := #[t, tn] }) (vs vx : Value) (hs : a.eval s = vs) (hx : a.eval x = vx)
    (v' : Value) (w' : World) (hr : (Builtin.append_ #[t, tn] o.type #[vs, vx]).run P w = .ok v' w') (h : K (a.put o.dst v') w') :
    if Region.wanted o (yielded ops a.tmps) = true then Oper.wp P o a w K Q else E := by
  have hw : Region.wanted o (yielded ops a.tmps) = true := by simp [Region.wanted, hgd]
  rw [if_pos hw]
  exact Lib.wp_append_run w s x t tn ho vs vx hs hx v' w' hr h
end Go.Proofs.Qxb6601041a
