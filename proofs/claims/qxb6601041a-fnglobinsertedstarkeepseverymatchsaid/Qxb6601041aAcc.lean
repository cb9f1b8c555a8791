/-
  Seat b6601041a: matches says whether the pattern matches.
-/
import Derived.Test.Qxb6601041aComp
import Derived.Test.Qxb6601041aMatchN
namespace Go.Proofs.Qxb6601041a
open Go.RowKit

theorem chain_ex (V : Nat → Int) {Q : Nat → Prop} {K : Nat → Nat → Prop} : ∀ (rs : List RunD) (pos : Nat), (∃ e, Q e ∧ chain V (K e) rs pos) ↔ chain V (fun pos => ∃ e, Q e ∧ K e pos) rs pos
  | [], pos => Iff.rfl
  | r :: rs, pos => by
    constructor
    · rintro ⟨e, h1, s, h2, h3, h4⟩
      exact ⟨s, h2, h3, (chain_ex V rs _).1 ⟨e, h1, h4⟩⟩
    · rintro ⟨s, h2, h3, h4⟩
      obtain ⟨e, h1, h5⟩ := (chain_ex V rs _).2 h4
      exact ⟨e, h1, s, h2, h3, h5⟩

theorem acc_one {P : Nat → Int} {np n : Nat} {V : Nat → Int} {W : Nat → Bool} {words : Bool} {r : RunD} (h : ∀ V s e, PM V P np 0 s e ↔ Fit r.m r.C V s ∧ s + r.m = e) : AccOne words n V W r ↔ Matches P np n V W words := by
  unfold AccOne Matches
  cases words with
  | true =>
    simp only [if_true]
    constructor
    · rintro ⟨s, hg⟩
      exact ⟨s, s + r.m, hg.st rfl, hg.le, hg.en rfl, (h V s _).2 ⟨hg.fit, rfl⟩⟩
    · rintro ⟨s, e, h1, h2, h3, h4⟩
      obtain ⟨h5, rfl⟩ := (h V s e).1 h4
      exact ⟨s, ⟨Nat.zero_le _, h2, fun _ => h1, fun _ => h3, h5⟩⟩
  | false =>
    simp only [Bool.false_eq_true, if_false]
    rw [h V 0 n]
    constructor
    · rintro ⟨h1, h2⟩
      exact ⟨h2, by omega⟩
    · rintro ⟨h1, h2⟩
      exact ⟨by omega, h1⟩

theorem acc_more {P : Nat → Int} {np n : Nat} {V : Nat → Int} {W : Nat → Bool} {words : Bool} {r0 : RunD} {mid : List RunD} {rl : RunD} (h : ∀ V s e, PM V P np 0 s e ↔ Fit r0.m r0.C V s ∧ chain V (fun pos => ∃ s1, pos + rl.gap ≤ s1 ∧ Fit rl.m rl.C V s1 ∧ s1 + rl.m = e) mid (s + r0.m)) : AccMore words n V W r0 mid rl ↔ Matches P np n V W words := by
  unfold AccMore Matches
  cases words with
  | true =>
    simp only [if_true]
    have hk : ∀ pos, (∃ e, (e ≤ n ∧ Fin n W e) ∧ ∃ s1, pos + rl.gap ≤ s1 ∧ Fit rl.m rl.C V s1 ∧ s1 + rl.m = e) ↔ KW n V W rl pos := fun pos => by
      constructor
      · rintro ⟨e, ⟨h1, h2⟩, s1, h3, h4, rfl⟩
        exact ⟨s1, ⟨h3, h1, nofun, fun _ => h2, h4⟩⟩
      · rintro ⟨s1, hg⟩
        exact ⟨s1 + rl.m, ⟨hg.le, hg.en rfl⟩, s1, hg.fr, hg.fit, rfl⟩
    have hc : ∀ pos, chain V (KW n V W rl) mid pos ↔ ∃ e, (e ≤ n ∧ Fin n W e) ∧ chain V (fun pos => ∃ s1, pos + rl.gap ≤ s1 ∧ Fit rl.m rl.C V s1 ∧ s1 + rl.m = e) mid pos := fun pos => by
      rw [chain_ex V (Q := fun e => e ≤ n ∧ Fin n W e) mid pos]
      exact (chain_congr V (fun pos => (hk pos).symm) mid pos)
    constructor
    · rintro ⟨s, hg, h1⟩
      obtain ⟨e, ⟨h2, h3⟩, h4⟩ := (hc _).1 h1
      exact ⟨s, e, hg.st rfl, h2, h3, (h V s e).2 ⟨hg.fit, h4⟩⟩
    · rintro ⟨s, e, h1, h2, h3, h4⟩
      obtain ⟨h5, h6⟩ := (h V s e).1 h4
      have h7 := (hc _).2 ⟨e, ⟨h2, h3⟩, h6⟩
      exact ⟨s, ⟨Nat.zero_le _, chain_le V KW_le mid _ h7, fun _ => h1, nofun, h5⟩, h7⟩
  | false =>
    simp only [Bool.false_eq_true, if_false]
    rw [h V 0 n, Nat.zero_add]
    constructor
    · rintro ⟨_, h2, h3⟩
      exact ⟨h2, h3⟩
    · rintro ⟨h2, h3⟩
      exact ⟨chain_le V KN_le mid _ h3, h2, h3⟩

theorem MatP.congr {fb : Nat} {y z : Sl} {V : Nat → Int} {W : Nat → Bool} {A B : Prop} {w : World} {e : Ending} {w' : World} (h : MatP fb y z V W A w e w') (hab : A ↔ B) : MatP fb y z V W B w e w' := by
  obtain ⟨b, h1, h2, h3⟩ := h
  exact ⟨b, h1, h2.trans hab, h3⟩

theorem matches_any {gb : Nat} {words : Bool} {R : List RunV} {fb : Nat} {y z : Sl} {V : Nat → Int} {W : Nat → Bool} {vc vl vm vs : Value} {w : World} (hM : MW gb (.bool words) R fb y z V W vc vl vm vs w) {P : Nat → Int} {np : Nat} (hcb : CB R (np + 1)) (hall : All P np (R.map rd)) (hnp : np ≤ 1025) :
    Calls Try.prog 35 #[.pointer (some ⟨gb, 0, none⟩), .pointer (some ⟨fb, 0, none⟩)] w (MatP fb y z V W (Matches P np y.n V W words) w) := by
  have hb : Bnd R := by
    have h1 := hcb.c
    have h2 := hcb.l
    have h3 := hcb.m
    have h4 := hcb.n
    exact ⟨by omega, by omega, by omega, by omega⟩
  rcases hall with ⟨q, hq, h⟩ | ⟨q0, qm, ql, hq, h⟩
  · obtain ⟨r, rs, rfl, rfl, hrs⟩ := List.map_eq_cons_iff.1 hq
    obtain rfl := List.map_eq_nil_iff.1 hrs
    exact (matches_one hM (hcb.ok r (by simp)) hb).mono fun e w' h1 => h1.congr (acc_one h)
  · obtain ⟨r0, rs, rfl, rfl, hrs⟩ := List.map_eq_cons_iff.1 hq
    obtain ⟨mid, ls, rfl, rfl, hls⟩ := List.map_eq_append_iff.1 hrs
    obtain ⟨rl, ls', rfl, rfl, hls'⟩ := List.map_eq_cons_iff.1 hls
    obtain rfl := List.map_eq_nil_iff.1 hls'
    cases words with
    | true => exact (matches_w hM hcb.ok hb).mono fun e w' h1 => h1.congr (acc_more h)
    | false => exact (matches_n hM hcb.ok hb).mono fun e w' h1 => h1.congr (acc_more h)

set_option maxRecDepth 100000 in
set_option maxHeartbeats 1000000 in
theorem zzmatches_any {gb : Nat} {words : Bool} {R : List RunV} {fb : Nat} {y z : Sl} {V : Nat → Int} {W : Nat → Bool} {vc vl vm vs : Value} {w : World} (hM : MW gb (.bool words) R fb y z V W vc vl vm vs w) {P : Nat → Int} {np : Nat} (hcb : CB R (np + 1)) (hall : All P np (R.map rd)) (hnp : np ≤ 1025) :
    Calls Try.prog 15 #[.pointer (some ⟨gb, 0, none⟩), .pointer (some ⟨fb, 0, none⟩)] w (MatP fb y z V W (Matches P np y.n V W words) w) := by
  have HA := hid (matches_any hM hcb hall hnp)
  clear hM hcb hall
  go_enter Try.func15, Try.ntmps15
  go_wp2_with (go_at_call 35; refine HA.out.mono ?_; rintro e w' ⟨b, rfl, h1⟩)
  go_ret
  exact ⟨b, rfl, h1⟩
end Go.Proofs.Qxb6601041a
