/-
  Seat b6601041a: PATTERNS AND THEIR RUNS, with no Go in it: a pattern matches a part; the runs of a compiled pattern can be laid into it; one star more keeps every match.
-/
import Derived.Test.Qxb6601041aPlainF
namespace Go.Proofs.Qxb6601041a

/-- The k elements of the pattern P from i on match V's part from s to e (-2: a star, -1: any one). -/
def PM (V P : Nat → Int) : Nat → Nat → Nat → Nat → Prop
  | 0, _, s, e => s = e
  | k + 1, i, s, e => (P i = -2 ∧ ∃ s', s ≤ s' ∧ PM V P k (i + 1) s' e) ∨ (P i ≠ -2 ∧ s < e ∧ Ok P i (V s) ∧ PM V P k (i + 1) (s + 1) e)

theorem pm_le (V P : Nat → Int) : ∀ k i s e, PM V P k i s e → s ≤ e
  | 0, _, s, e, h => Nat.le_of_eq h
  | k + 1, i, s, e, h => by
    rcases h with ⟨_, s', h1, h2⟩ | ⟨_, h1, _⟩
    · exact Nat.le_trans h1 (pm_le V P k (i + 1) s' e h2)
    · omega

/-- A part of the pattern without a star. -/
theorem pm_seg (V P : Nat → Int) (k e : Nat) : ∀ m i s, (∀ p, p < m → P (i + p) ≠ -2) → (PM V P (m + k) i s e ↔ Fit m (fun p => P (i + p)) V s ∧ s + m ≤ e ∧ PM V P k (i + m) (s + m) e)
  | 0, i, s, _ => by
    rw [Nat.zero_add]
    constructor
    · intro h
      exact ⟨fun p hp => absurd hp (Nat.not_lt_zero _), pm_le V P k i s e h, h⟩
    · exact fun h => h.2.2
  | m + 1, i, s, hns => by
    rw [show m + 1 + k = (m + k) + 1 by omega]
    have hs0 := hns 0 (by omega)
    rw [Nat.add_zero] at hs0
    have ih := pm_seg V P k e m (i + 1) (s + 1) (fun p hp => by have := hns (p + 1) (by omega); rwa [show i + 1 + p = i + (p + 1) by omega])
    constructor
    · rintro (⟨h, _⟩ | ⟨_, h1, h2, h3⟩)
      · exact absurd h hs0
      · obtain ⟨h4, h5, h6⟩ := ih.1 h3
        refine ⟨fun p hp => ?_, by omega, by rwa [show i + (m + 1) = i + 1 + m by omega, show s + (m + 1) = s + 1 + m by omega]⟩
        cases p with
        | zero => exact h2
        | succ p =>
          have := h4 p (by omega)
          rw [show s + (p + 1) = s + 1 + p by omega]
          unfold Ok at this ⊢
          simpa only [show i + (p + 1) = i + 1 + p by omega] using this
    · rintro ⟨h1, h2, h3⟩
      refine Or.inr ⟨hs0, by omega, h1 0 (by omega), ih.2 ⟨fun p hp => ?_, by omega, by rwa [show i + 1 + m = i + (m + 1) by omega, show s + 1 + m = s + (m + 1) by omega]⟩⟩
      have := h1 (p + 1) (by omega)
      rw [show s + (p + 1) = s + 1 + p by omega] at this
      unfold Ok at this ⊢
      simpa only [show i + (p + 1) = i + 1 + p by omega] using this

/-- A run: its gap, how many characters, its characters. -/
structure RunD where
  gap : Nat
  m : Nat
  C : Nat → Int

/-- The runs one after the other from pos on, each where it fits, its gap or more behind the one before; then K. -/
def chain (V : Nat → Int) (K : Nat → Prop) : List RunD → Nat → Prop
  | [], pos => K pos
  | r :: rs, pos => ∃ s, pos + r.gap ≤ s ∧ Fit r.m r.C V s ∧ chain V K rs (s + r.m)

theorem chain_congr (V : Nat → Int) {K K' : Nat → Prop} (h : ∀ pos, K pos ↔ K' pos) : ∀ rs pos, chain V K rs pos ↔ chain V K' rs pos
  | [], pos => h pos
  | r :: rs, pos => by
    constructor
    · rintro ⟨s, h1, h2, h3⟩
      exact ⟨s, h1, h2, (chain_congr V h rs _).1 h3⟩
    · rintro ⟨s, h1, h2, h3⟩
      exact ⟨s, h1, h2, (chain_congr V h rs _).2 h3⟩

theorem chain_append (V : Nat → Int) (K : Nat → Prop) (r : RunD) : ∀ rs pos, chain V K (rs ++ [r]) pos ↔ chain V (fun pos => ∃ s, pos + r.gap ≤ s ∧ Fit r.m r.C V s ∧ K (s + r.m)) rs pos
  | [], pos => Iff.rfl
  | q :: rs, pos => by
    constructor
    · rintro ⟨s, h1, h2, h3⟩
      exact ⟨s, h1, h2, (chain_append V K r rs _).1 h3⟩
    · rintro ⟨s, h1, h2, h3⟩
      exact ⟨s, h1, h2, (chain_append V K r rs _).2 h3⟩

theorem chain_anti (V : Nat → Int) {K : Nat → Prop} (hK : ∀ a b, a ≤ b → K b → K a) : ∀ rs a b, a ≤ b → chain V K rs b → chain V K rs a
  | [], a, b, hab, h => hK a b hab h
  | r :: rs, a, b, hab, ⟨s, h1, h2, h3⟩ => ⟨s, by omega, h2, h3⟩

theorem chain_le (V : Nat → Int) {K : Nat → Prop} {n : Nat} (hn : ∀ a, K a → a ≤ n) : ∀ rs a, chain V K rs a → a ≤ n
  | [], a, h => hn a h
  | r :: rs, a, ⟨s, h1, _, h3⟩ => by
    have := chain_le V hn rs _ h3
    omega

/-- The first place will do. -/
theorem chain_first (V : Nat → Int) {K : Nat → Prop} {n : Nat} {W : Nat → Bool} (hK : ∀ a b, a ≤ b → K b → K a) (hn : ∀ a, K a → a ≤ n) (r : RunD) (rs : List RunD) (pos : Nat) {s : Nat}
    (hg : Good r.m r.C n V W (pos + r.gap) false false s) (hmin : ∀ s', Good r.m r.C n V W (pos + r.gap) false false s' → s ≤ s') : chain V K (r :: rs) pos ↔ chain V K rs (s + r.m) := by
  constructor
  · rintro ⟨s', h1, h2, h3⟩
    have := hmin s' ⟨h1, chain_le V hn rs _ h3, nofun, nofun, h2⟩
    exact chain_anti V hK rs _ _ (by omega) h3
  · intro h
    exact ⟨s, hg.fr, hg.fit, h⟩
theorem chain_none (V : Nat → Int) {K : Nat → Prop} {n : Nat} {W : Nat → Bool} (hn : ∀ a, K a → a ≤ n) (r : RunD) (rs : List RunD) (pos : Nat)
    (hno : ∀ s', ¬ Good r.m r.C n V W (pos + r.gap) false false s') : ¬ chain V K (r :: rs) pos := by
  rintro ⟨s', h1, h2, h3⟩
  exact hno s' ⟨h1, chain_le V hn rs _ h3, nofun, nofun, h2⟩

/-- What is left of the pattern behind a star: from st on, cy or more behind pos. -/
def Left (V P : Nat → Int) (np st cy e : Nat) (pos : Nat) : Prop := ∃ s', pos + cy ≤ s' ∧ PM V P (np - st) st s' e

/-- What compiling has done when the runs r0 :: rs are laid, st is where the next part begins, cy the any-ones before the star. -/
def Done (P : Nat → Int) (np : Nat) (r0 : RunD) (rs : List RunD) (st cy : Nat) : Prop :=
  ∀ V s e, PM V P np 0 s e ↔ (Fit r0.m r0.C V s ∧ chain V (Left V P np st cy e) rs (s + r0.m))

/-- Any-ones fit everywhere. -/
theorem fit_any {V P : Nat → Int} {m : Nat} {i s : Nat} (a b : Nat) (hab : a + b ≤ m) (ha : ∀ p, p < a → P (i + p) = -1) (hb : ∀ p, p < b → P (i + (m - b) + p) = -1) :
    Fit m (fun p => P (i + p)) V s ↔ Fit (m - b - a) (fun p => P (i + a + p)) V (s + a) := by
  constructor
  · intro h p hp
    have := h (a + p) (by omega)
    unfold Ok at this ⊢
    simpa only [show i + (a + p) = i + a + p by omega, show s + (a + p) = s + a + p by omega] using this
  · intro h p hp
    by_cases h1 : p < a
    · exact Or.inl (ha p h1)
    · by_cases h2 : p < m - b
      · have := h (p - a) (by omega)
        unfold Ok at this ⊢
        simpa only [show i + a + (p - a) = i + p by omega, show s + a + (p - a) = s + p by omega] using this
      · have := hb (p - (m - b)) (by omega)
        rw [show i + (m - b) + (p - (m - b)) = i + p by omega] at this
        exact Or.inl this

theorem left_star {V P : Nat → Int} {np st cy e i a b : Nat} (hi : st + a + b ≤ i) (hin : i < np) (hstar : P i = -2) (hns : ∀ p, st ≤ p → p < i → P p ≠ -2) (ha : ∀ p, p < a → P (st + p) = -1) (hb : ∀ p, p < b → P (i - b + p) = -1) (pos : Nat) :
    Left V P np st cy e pos ↔ ∃ s, pos + (cy + a) ≤ s ∧ Fit (i - b - (st + a)) (fun p => P (st + a + p)) V s ∧ Left V P np (i + 1) b e (s + (i - b - (st + a))) := by
  have hseg := fun s' => pm_seg V P (np - i) e (i - st) st s' (fun p hp => hns _ (by omega) (by omega))
  have hfit := fun s' => fit_any (V := V) (P := P) (m := i - st) (i := st) (s := s') a b (by omega) ha (fun p hp => by rw [show st + (i - st - b) + p = i - b + p by omega]; exact hb p hp)
  have hpm : ∀ s', PM V P (np - i) i s' e ↔ ∃ s2, s' ≤ s2 ∧ PM V P (np - (i + 1)) (i + 1) s2 e := by
    intro s'
    rw [show np - i = (np - (i + 1)) + 1 by omega]
    constructor
    · rintro (⟨_, h⟩ | ⟨h, _⟩)
      · exact h
      · exact absurd hstar h
    · exact fun h => Or.inl ⟨hstar, h⟩
  unfold Left
  constructor
  · rintro ⟨s', h1, h2⟩
    rw [show np - st = (i - st) + (np - i) by omega] at h2
    obtain ⟨h3, h4, h5⟩ := (hseg s').1 h2
    rw [show st + (i - st) = i by omega] at h5
    obtain ⟨s2, h6, h7⟩ := (hpm _).1 h5
    refine ⟨s' + a, by omega, ?_, s2, by omega, h7⟩
    have := (hfit s').1 h3
    rwa [show i - st - b - a = i - b - (st + a) by omega] at this
  · rintro ⟨s, h1, h2, s2, h3, h4⟩
    refine ⟨s - a, by omega, ?_⟩
    rw [show np - st = (i - st) + (np - i) by omega]
    have h5 := pm_le _ _ _ _ _ _ h4
    refine (hseg _).2 ⟨(hfit _).2 ?_, by omega, ?_⟩
    · rw [show i - st - b - a = i - b - (st + a) by omega, show s - a + a = s by omega]
      exact h2
    · rw [show st + (i - st) = i by omega]
      exact (hpm _).2 ⟨s2, by omega, h4⟩

theorem left_end {V P : Nat → Int} {np st cy e a : Nat} (hi : st + a ≤ np) (hns : ∀ p, st ≤ p → p < np → P p ≠ -2) (ha : ∀ p, p < a → P (st + p) = -1) (pos : Nat) :
    Left V P np st cy e pos ↔ ∃ s, pos + (cy + a) ≤ s ∧ Fit (np - (st + a)) (fun p => P (st + a + p)) V s ∧ s + (np - (st + a)) = e := by
  have hseg := fun s' => pm_seg V P 0 e (np - st) st s' (fun p hp => hns _ (by omega) (by omega))
  have hfit := fun s' => fit_any (V := V) (P := P) (m := np - st) (i := st) (s := s') a 0 (by omega) ha (fun p hp => absurd hp (Nat.not_lt_zero _))
  unfold Left
  constructor
  · rintro ⟨s', h1, h2⟩
    obtain ⟨h3, h4, h5⟩ := (hseg s').1 h2
    change s' + (np - st) = e at h5
    refine ⟨s' + a, by omega, ?_, by omega⟩
    have := (hfit s').1 h3
    rwa [show np - st - 0 - a = np - (st + a) by omega] at this
  · rintro ⟨s, h1, h2, h3⟩
    refine ⟨s - a, by omega, ?_⟩
    refine (hseg _).2 ⟨(hfit _).2 ?_, by omega, ?_⟩
    · rw [show np - st - 0 - a = np - (st + a) by omega, show s - a + a = s by omega]
      exact h2
    · show s - a + (np - st) = e
      omega

/-- The first part, with a star behind it. -/
theorem done_first {P : Nat → Int} {np i b : Nat} (hi : b ≤ i) (hin : i < np) (hstar : P i = -2) (hns : ∀ p, p < i → P p ≠ -2) (hb : ∀ p, p < b → P (i - b + p) = -1) : Done P np ⟨0, i - b, fun p => P p⟩ [] (i + 1) b := by
  intro V s e
  have h := left_star (V := V) (P := P) (np := np) (st := 0) (cy := 0) (e := e) (i := i) (a := 0) (b := b) (by omega) hin hstar (fun p _ hp => hns p hp) (fun p hp => absurd hp (Nat.not_lt_zero _)) hb
  have hseg := pm_seg V P (np - i) e i 0 s (fun p hp => by rw [Nat.zero_add]; exact hns _ hp)
  have hfit := fit_any (V := V) (P := P) (m := i) (i := 0) (s := s) 0 b (by omega) (fun p hp => absurd hp (Nat.not_lt_zero _)) (fun p hp => by rw [show 0 + (i - b) + p = i - b + p by omega]; exact hb p hp)
  have hpm : ∀ s', PM V P (np - i) i s' e ↔ ∃ s2, s' ≤ s2 ∧ PM V P (np - (i + 1)) (i + 1) s2 e := by
    intro s'
    rw [show np - i = (np - (i + 1)) + 1 by omega]
    constructor
    · rintro (⟨_, h⟩ | ⟨h, _⟩)
      · exact h
      · exact absurd hstar h
    · exact fun h => Or.inl ⟨hstar, h⟩
  rw [show i + (np - i) = np by omega] at hseg
  simp only [Nat.zero_add, Nat.add_zero, Nat.sub_zero] at hseg hfit
  rw [hseg, hfit]
  show _ ↔ Fit (i - b) (fun p => P p) V s ∧ Left V P np (i + 1) b e (s + (i - b))
  unfold Left
  constructor
  · rintro ⟨h1, h2, h3⟩
    obtain ⟨s2, h4, h5⟩ := (hpm _).1 h3
    exact ⟨h1, s2, by omega, h5⟩
  · rintro ⟨h1, s2, h3, h4⟩
    have h5 := pm_le _ _ _ _ _ _ h4
    exact ⟨h1, by omega, (hpm _).2 ⟨s2, by omega, h4⟩⟩

/-- A later part, with a star behind it. -/
theorem done_next {P : Nat → Int} {np : Nat} {r0 : RunD} {rs : List RunD} {st cy i a b : Nat} (h : Done P np r0 rs st cy) (hi : st + a + b ≤ i) (hin : i < np) (hstar : P i = -2) (hns : ∀ p, st ≤ p → p < i → P p ≠ -2)
    (ha : ∀ p, p < a → P (st + p) = -1) (hb : ∀ p, p < b → P (i - b + p) = -1) : Done P np r0 (rs ++ [⟨cy + a, i - b - (st + a), fun p => P (st + a + p)⟩]) (i + 1) b := by
  intro V s e
  rw [h V s e, chain_append]
  rw [chain_congr V (left_star (V := V) (P := P) (np := np) (st := st) (cy := cy) (e := e) (i := i) (a := a) (b := b) hi hin hstar hns ha hb)]

/-- All is compiled: one run, or a first, middle ones and a last. -/
def All (P : Nat → Int) (np : Nat) (rs : List RunD) : Prop :=
  (∃ r, rs = [r] ∧ ∀ V s e, PM V P np 0 s e ↔ Fit r.m r.C V s ∧ s + r.m = e) ∨
  (∃ r0 mid rl, rs = r0 :: (mid ++ [rl]) ∧ ∀ V s e, PM V P np 0 s e ↔ Fit r0.m r0.C V s ∧ chain V (fun pos => ∃ s1, pos + rl.gap ≤ s1 ∧ Fit rl.m rl.C V s1 ∧ s1 + rl.m = e) mid (s + r0.m))

theorem all_one {P : Nat → Int} {np : Nat} (g : Nat) (hns : ∀ p, p < np → P p ≠ -2) : All P np [⟨g, np, fun p => P p⟩] := by
  refine Or.inl ⟨_, rfl, fun V s e => ?_⟩
  have hseg := pm_seg V P 0 e np 0 s (fun p hp => by rw [Nat.zero_add]; exact hns _ hp)
  simp only [Nat.zero_add, Nat.add_zero] at hseg
  rw [hseg]
  constructor
  · rintro ⟨h1, _, h2⟩
    exact ⟨h1, h2⟩
  · rintro ⟨h1, h2⟩
    change s + np = e at h2
    exact ⟨h1, Nat.le_of_eq h2, h2⟩

theorem all_more {P : Nat → Int} {np : Nat} {r0 : RunD} {rs : List RunD} {st cy a : Nat} (h : Done P np r0 rs st cy) (hi : st + a ≤ np) (hns : ∀ p, st ≤ p → p < np → P p ≠ -2) (ha : ∀ p, p < a → P (st + p) = -1) :
    All P np (r0 :: (rs ++ [⟨cy + a, np - (st + a), fun p => P (st + a + p)⟩])) := by
  refine Or.inr ⟨r0, rs, _, rfl, fun V s e => ?_⟩
  rw [h V s e]
  rw [chain_congr V (left_end (V := V) (P := P) (np := np) (st := st) (cy := cy) (e := e) (a := a) hi hns ha)]

/-- The pattern matches the value. -/
def Matches (P : Nat → Int) (np n : Nat) (V : Nat → Int) (W : Nat → Bool) (words : Bool) : Prop :=
  if words = true then ∃ s e, Beg W s ∧ e ≤ n ∧ Fin n W e ∧ PM V P np 0 s e else PM V P np 0 0 n

/-- One star more, at k. -/
structure Wider (P Q : Nat → Int) (np k : Nat) : Prop where
  le : k ≤ np
  lo : ∀ i, i < k → Q i = P i
  at_ : Q k = -2
  hi : ∀ i, k ≤ i → i < np → Q (i + 1) = P i

theorem pm_shift {V P Q : Nat → Int} {np k : Nat} (h : Wider P Q np k) (e : Nat) : ∀ c i s, k ≤ i → i + c ≤ np → PM V P c i s e → PM V Q c (i + 1) s e
  | 0, _, _, _, _, h1 => h1
  | c + 1, i, s, hk, hc, h1 => by
    have hq := h.hi i hk (by omega)
    rcases h1 with ⟨h2, s', h3, h4⟩ | ⟨h2, h3, h4, h5⟩
    · exact Or.inl ⟨by rw [hq]; exact h2, s', h3, pm_shift h e c (i + 1) s' (by omega) (by omega) h4⟩
    · refine Or.inr ⟨by rw [hq]; exact h2, h3, ?_, pm_shift h e c (i + 1) (s + 1) (by omega) (by omega) h5⟩
      unfold Ok at h4 ⊢
      rw [hq]
      exact h4

theorem pm_wider {V P Q : Nat → Int} {np k : Nat} (h : Wider P Q np k) (e : Nat) : ∀ d i s, i + d = k → PM V P (np - i) i s e → PM V Q (np - i + 1) i s e
  | 0, i, s, hd, h1 => by
    have hik : i = k := by omega
    subst hik
    exact Or.inl ⟨h.at_, s, Nat.le_refl _, pm_shift h e (np - i) i s (Nat.le_refl _) (by have := h.le; omega) h1⟩
  | d + 1, i, s, hd, h1 => by
    have hle := h.le
    have hq := h.lo i (by omega)
    obtain ⟨c, hc⟩ : ∃ c, np - i = c + 1 := ⟨np - i - 1, by omega⟩
    have hc' : np - (i + 1) = c := by omega
    rw [hc] at h1 ⊢
    rcases h1 with ⟨h2, s', h3, h4⟩ | ⟨h2, h3, h4, h5⟩
    · refine Or.inl ⟨by rw [hq]; exact h2, s', h3, ?_⟩
      rw [← hc'] at h4 ⊢
      exact pm_wider h e d (i + 1) s' (by omega) h4
    · refine Or.inr ⟨by rw [hq]; exact h2, h3, ?_, ?_⟩
      · unfold Ok at h4 ⊢
        rw [hq]
        exact h4
      · rw [← hc'] at h5 ⊢
        exact pm_wider h e d (i + 1) (s + 1) (by omega) h5

/-- THE LAW. -/
theorem matches_wider {P Q : Nat → Int} {np k n : Nat} {V : Nat → Int} {W : Nat → Bool} {words : Bool} (h : Wider P Q np k) (hm : Matches P np n V W words) : Matches Q (np + 1) n V W words := by
  have key : ∀ s e, PM V P np 0 s e → PM V Q (np + 1) 0 s e := fun s e h1 => by
    have := pm_wider h e k 0 s (by omega) (by simpa using h1)
    simpa using this
  unfold Matches at hm ⊢
  split at hm
  · rename_i hw
    rw [if_pos hw]
    obtain ⟨s, e, h1, h2, h3, h4⟩ := hm
    exact ⟨s, e, h1, h2, h3, key s e h4⟩
  · rename_i hw
    rw [if_neg hw]
    exact key _ _ hm
end Go.Proofs.Qxb6601041a
