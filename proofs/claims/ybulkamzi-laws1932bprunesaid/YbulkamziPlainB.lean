import Derived.Test.YbulkamziTabC
namespace Go.Proofs.Ybulkamzi
set_option linter.unusedVariables false

/-- The place t steps past f, going up and round. -/
def P (n f t : Nat) : Nat := (f + t) % n
theorem P_eq {n f t : Nat} (hf : f < n) (ht : t ≤ n) : P n f t = if f + t < n then f + t else f + t - n := by
  unfold P
  split
  · rename_i h; exact Nat.mod_eq_of_lt h
  · rename_i h
    rw [Nat.mod_eq_sub_mod (by omega), Nat.mod_eq_of_lt (by omega)]
theorem P_lt {n f t : Nat} (hf : f < n) : P n f t < n := Nat.mod_lt _ (by omega)
theorem P_zero {n f : Nat} (hf : f < n) : P n f 0 = f := by unfold P; exact Nat.mod_eq_of_lt (by omega)
theorem P_n {n f : Nat} (hf : f < n) : P n f n = f := by rw [P_eq hf (Nat.le_refl _), if_neg (by omega)]; omega
theorem P_inj {n f s t : Nat} (hf : f < n) (hs : s < n) (ht : t < n) (h : P n f s = P n f t) : s = t := by
  rw [P_eq hf (by omega), P_eq hf (by omega)] at h
  split at h <;> split at h <;> omega
theorem P_surj {n f p : Nat} (hf : f < n) (hp : p < n) : ∃ t, t < n ∧ P n f t = p := by
  by_cases h : f ≤ p
  · exact ⟨p - f, by omega, by rw [P_eq hf (by omega), if_pos (by omega)]; omega⟩
  · exact ⟨p + n - f, by omega, by rw [P_eq hf (by omega), if_neg (by omega)]; omega⟩
theorem P_next (n f t : Nat) : (P n f t + 1) % n = P n f (t + 1) := by unfold P; rw [Nat.mod_add_mod]; rfl
theorem P_add (n f a t : Nat) : P n (P n f a) t = P n f (a + t) := by unfold P; rw [Nat.mod_add_mod, Nat.add_assoc]
/-- The distance from one place up to another, as the text reckons it. -/
theorem P_dist {n f a y : Nat} (hf : f < n) (ha : a ≤ y) (hy : y < n) : ((P n f y : Int) - (P n f a : Int)) % (n : Int) = ((y - a : Nat) : Int) := by
  rw [P_eq hf (by omega), P_eq hf (by omega)]
  split <;> split
  · rw [Int.emod_eq_of_lt (by omega) (by omega)]; omega
  · omega
  · rw [← Int.add_emod_right, Int.emod_eq_of_lt (by omega) (by omega)]; omega
  · rw [Int.emod_eq_of_lt (by omega) (by omega)]; omega

/-- Seen from the empty place f, each resource lies at or past its start, with no empty place between. -/
def Good (n : Nat) (spot : Nat → Nat) (f : Nat) (R : Nat → Option Nat) : Prop :=
  ∀ t, t < n → ∀ k, R (P n f t) = some k → ∃ a, a ≤ t ∧ P n f a = spot k % n ∧ ∀ s, a ≤ s → s < t → R (P n f s) ≠ none

theorem updB_none {R : Nat → Option Nat} {i p : Nat} {x : Nat} (h : R p ≠ none) : updB R i (some x) p ≠ none := by
  unfold updB; split <;> simp_all

theorem good_put {n : Nat} {spot : Nat → Nat} {R : Nat → Option Nat} (hg : ∀ f, f < n → R f = none → Good n spot f R) {k T : Nat} (hn : 0 < n) (hT : T < n)
    (hfull : ∀ t, t < T → R (P n (spot k % n) t) ≠ none) : ∀ f, f < n → updB R (P n (spot k % n) T) (some k) f = none → Good n spot f (updB R (P n (spot k % n) T) (some k)) := by
  intro f hf hfe
  have hst : spot k % n < n := Nat.mod_lt _ hn
  generalize hst' : spot k % n = st at *
  have hfi : f ≠ P n st T := fun e => by rw [e, updB_same] at hfe; cases hfe
  have hfR : R f = none := by rw [updB_other _ _ _ _ hfi] at hfe; exact hfe
  intro t ht j hj
  by_cases e : P n f t = P n st T
  · rw [e, updB_same] at hj
    cases hj
    obtain ⟨a, ha, hpa⟩ := P_surj hf hst
    have hP : ∀ t', P n f (a + t') = P n st t' := fun t' => by rw [← P_add, hpa]
    have hlt : ∀ t', t' ≤ T → a + t' < n := by
      intro t'
      induction t' with
      | zero => intro _; omega
      | succ t' ih =>
        intro h
        have := ih (by omega)
        by_cases e1 : a + (t' + 1) = n
        · exfalso
          have h1 := hP (t' + 1)
          rw [e1, P_n hf] at h1
          by_cases e2 : t' + 1 = T
          · rw [e2] at h1; exact hfi h1
          · exact hfull (t' + 1) (by omega) (h1 ▸ hfR)
        · omega
    have hat : t = a + T := P_inj hf ht (hlt T (Nat.le_refl _)) (e.trans (hP T).symm)
    refine ⟨a, by omega, hpa.trans hst'.symm, fun s h1 h2 => ?_⟩
    have h3 := hfull (s - a) (by omega)
    rw [← hP, show a + (s - a) = s by omega] at h3
    exact updB_none h3
  · rw [updB_other _ _ _ _ e] at hj
    obtain ⟨a, h1, h2, h3⟩ := hg f hf hfR t ht j hj
    exact ⟨a, h1, h2, fun s h4 h5 => updB_none (h3 s h4 h5)⟩

/-! ### remove -/
/-- While remove runs: hole x, cursor y; R0, x0, k0: the table, the place and the resource at the beginning. -/
structure Rem (n : Nat) (spot : Nat → Nat) (f : Nat) (R0 : Nat → Option Nat) (x0 k0 : Nat) (R : Nat → Option Nat) (x y : Nat) : Prop where
  hx : 1 ≤ x ∧ x < y ∧ y ≤ n
  emp : R (P n f 0) = none
  reach : ∀ t, t < n → t ≠ x → ∀ k, R (P n f t) = some k → ∃ a, a ≤ t ∧ P n f a = spot k % n ∧ (∀ s, a ≤ s → s < t → s ≠ x → R (P n f s) ≠ none) ∧ (a ≤ x → x < t → y ≤ t)
  from0 : ∀ t, t < n → t ≠ x → ∀ k, R (P n f t) = some k → k ≠ k0 ∧ ∃ t', t' < n ∧ R0 (P n f t') = some k ∧ (x0 ≤ t → x0 ≤ t')
  to1 : ∀ t', t' < n → ∀ k, R0 (P n f t') = some k → k ≠ k0 → ∃ t, t < n ∧ t ≠ x ∧ R (P n f t) = some k
  uniq : ∀ t s, t < n → s < n → t ≠ x → s ≠ x → ∀ k, R (P n f t) = some k → R (P n f s) = some k → t = s
  low : x0 ≤ x ∧ ∀ t, t < x0 → R (P n f t) = R0 (P n f t)

theorem rem_start {n : Nat} {spot : Nat → Nat} {f : Nat} {R : Nat → Option Nat} {x k0 : Nat} (hf : f < n) (hx : x < n) (hk : R (P n f x) = some k0) (he : R (P n f 0) = none) (hg : Good n spot f R)
    (hu : ∀ t s, t < n → s < n → ∀ k, R (P n f t) = some k → R (P n f s) = some k → t = s) : Rem n spot f R x k0 R x (x + 1) where
  hx := ⟨by rcases Nat.eq_zero_or_pos x with h | h
            · subst h; rw [he] at hk; cases hk
            · exact h, by omega, by omega⟩
  emp := he
  reach := fun t ht hne k hk => by
    obtain ⟨a, h1, h2, h3⟩ := hg t ht k hk
    exact ⟨a, h1, h2, fun s h4 h5 _ => h3 s h4 h5, fun _ h => h⟩
  from0 := fun t ht hne k hk' => ⟨fun e => hne (hu t x ht hx k hk' (e ▸ hk)), t, ht, hk', fun h => h⟩
  to1 := fun t ht k hk' hne => ⟨t, ht, fun e => hne (by subst e; rw [hk] at hk'; cases hk'; rfl), hk'⟩
  uniq := fun t s ht hs _ _ k h1 h2 => hu t s ht hs k h1 h2
  low := ⟨Nat.le_refl _, fun _ _ => rfl⟩

theorem rem_keep {n : Nat} {spot : Nat → Nat} {f : Nat} {R0 R : Nat → Option Nat} {x0 k0 x y k a : Nat} (hf : f < n) (h : Rem n spot f R0 x0 k0 R x y) (hy : y < n) (hk : R (P n f y) = some k)
    (ha : a < n) (hpa : P n f a = spot k % n) (hax : ¬ a ≤ x) : Rem n spot f R0 x0 k0 R x (y + 1) := by
  obtain ⟨h1, h2, h3, h4, h5, h6, h7⟩ := h
  refine ⟨⟨h1.1, by omega, by omega⟩, h2, fun t ht hne j hj => ?_, h4, h5, h6, h7⟩
  obtain ⟨b, b1, b2, b3, b4⟩ := h3 t ht hne j hj
  refine ⟨b, b1, b2, b3, fun c1 c2 => ?_⟩
  have := b4 c1 c2
  by_cases e : t = y
  · exfalso
    subst e
    rw [hk] at hj
    cases hj
    exact hax (P_inj hf (by omega) ha (b2.trans hpa.symm) ▸ c1)
  · omega

theorem rem_move {n : Nat} {spot : Nat → Nat} {f : Nat} {R0 R : Nat → Option Nat} {x0 k0 x y k a : Nat} (hf : f < n) (h : Rem n spot f R0 x0 k0 R x y) (hy : y < n) (hk : R (P n f y) = some k)
    (ha : a < n) (hpa : P n f a = spot k % n) (hax : a ≤ x) : Rem n spot f R0 x0 k0 (updB R (P n f x) (some k)) y (y + 1) := by
  obtain ⟨h1, h2, h3, h4, h5, h6, h7⟩ := h
  have hne : ∀ t, t < n → t ≠ x → updB R (P n f x) (some k) (P n f t) = R (P n f t) := fun t ht e => updB_other _ _ _ _ (fun e' => e (P_inj hf ht (by omega) e'))
  refine ⟨⟨by omega, by omega, by omega⟩, by rw [hne 0 (by omega) (by omega)]; exact h2, fun t ht hty j hj => ?_, fun t ht hty j hj => ?_, fun t' ht' j hj hjk => ?_, fun t s ht hs hty hsy j hj1 hj2 => ?_, ⟨by omega, fun t ht => ?_⟩⟩
  · by_cases e : t = x
    · subst e
      rw [updB_same] at hj
      cases hj
      obtain ⟨b, b1, b2, b3, b4⟩ := h3 y hy (by omega) k hk
      have hba := P_inj hf (by omega) ha (b2.trans hpa.symm)
      subst hba
      refine ⟨b, hax, hpa, fun s c1 c2 c3 => ?_, fun c1 c2 => by omega⟩
      rw [hne s (by omega) (by omega)]
      exact b3 s c1 (by omega) (by omega)
    · rw [hne t ht e] at hj
      obtain ⟨b, b1, b2, b3, b4⟩ := h3 t ht e j hj
      refine ⟨b, b1, b2, fun s c1 c2 c3 => ?_, fun c1 c2 => c2⟩
      by_cases es : s = x
      · subst es; rw [updB_same]; simp
      · rw [hne s (by omega) es]; exact b3 s c1 c2 es
  · by_cases e : t = x
    · subst e
      rw [updB_same] at hj
      cases hj
      obtain ⟨c1, t', c2, c3, c4⟩ := h4 y hy (by omega) k hk
      exact ⟨c1, t', c2, c3, fun _ => c4 (by omega)⟩
    · rw [hne t ht e] at hj
      exact h4 t ht e j hj
  · obtain ⟨t, c1, c2, c3⟩ := h5 t' ht' j hj hjk
    by_cases e : t = y
    · subst e
      rw [hk] at c3
      cases c3
      exact ⟨x, by omega, by omega, updB_same _ _ _⟩
    · exact ⟨t, c1, e, by rw [hne t c1 c2]; exact c3⟩
  · by_cases e1 : t = x
    · by_cases e2 : s = x
      · omega
      · subst e1
        rw [updB_same] at hj1
        cases hj1
        rw [hne s hs e2] at hj2
        exact absurd (h6 s y hs hy e2 (by omega) k hj2 hk) hsy
    · by_cases e2 : s = x
      · subst e2
        rw [updB_same] at hj2
        cases hj2
        rw [hne t ht e1] at hj1
        exact absurd (h6 t y ht hy e1 (by omega) k hj1 hk) hty
      · rw [hne t ht e1] at hj1
        rw [hne s hs e2] at hj2
        exact h6 t s ht hs e1 e2 j hj1 hj2
  · rw [hne t (by omega) (by omega)]
    exact h7.2 t ht

/-- What remove leaves. -/
structure RemDone (n : Nat) (spot : Nat → Nat) (f : Nat) (R0 : Nat → Option Nat) (x0 k0 : Nat) (R : Nat → Option Nat) : Prop where
  emp : R (P n f 0) = none
  good : Good n spot f R
  from0 : ∀ t, t < n → ∀ k, R (P n f t) = some k → k ≠ k0 ∧ ∃ t', t' < n ∧ R0 (P n f t') = some k ∧ (x0 ≤ t → x0 ≤ t')
  to1 : ∀ t', t' < n → ∀ k, R0 (P n f t') = some k → k ≠ k0 → ∃ t, t < n ∧ R (P n f t) = some k
  uniq : ∀ t s, t < n → s < n → ∀ k, R (P n f t) = some k → R (P n f s) = some k → t = s
  low : ∀ t, t < x0 → R (P n f t) = R0 (P n f t)

theorem rem_end {n : Nat} {spot : Nat → Nat} {f : Nat} {R0 R : Nat → Option Nat} {x0 k0 x y : Nat} (hf : f < n) (h : Rem n spot f R0 x0 k0 R x y) (hy : R (P n f y) = none) :
    RemDone n spot f R0 x0 k0 (updB R (P n f x) none) := by
  obtain ⟨h1, h2, h3, h4, h5, h6, h7⟩ := h
  have hne : ∀ t, t < n → t ≠ x → updB R (P n f x) none (P n f t) = R (P n f t) := fun t ht e => updB_other _ _ _ _ (fun e' => e (P_inj hf ht (by omega) e'))
  have hxn : ∀ t, t < n → ∀ j, updB R (P n f x) none (P n f t) = some j → t ≠ x := fun t ht j hj e => by subst e; rw [updB_same] at hj; cases hj
  refine ⟨by rw [hne 0 (by omega) (by omega)]; exact h2, fun t ht j hj => ?_, fun t ht j hj => ?_, fun t' ht' j hj hjk => ?_, fun t s ht hs j hj1 hj2 => ?_, fun t ht => ?_⟩
  · have e := hxn t ht j hj
    rw [hne t ht e] at hj
    obtain ⟨b, b1, b2, b3, b4⟩ := h3 t ht e j hj
    refine ⟨b, b1, b2, fun s c1 c2 => ?_⟩
    have hsx : s ≠ x := fun es => by
      subst es
      have hyt := b4 c1 c2
      have hyt' : y ≠ t := fun e => by subst e; rw [hy] at hj; cases hj
      exact b3 y (by omega) (by omega) (by omega) hy
    rw [hne s (by omega) hsx]
    exact b3 s c1 c2 hsx
  · have e := hxn t ht j hj
    rw [hne t ht e] at hj
    exact h4 t ht e j hj
  · obtain ⟨t, c1, c2, c3⟩ := h5 t' ht' j hj hjk
    exact ⟨t, c1, by rw [hne t c1 c2]; exact c3⟩
  · have e1 := hxn t ht j hj1
    have e2 := hxn s hs j hj2
    rw [hne t ht e1] at hj1
    rw [hne s hs e2] at hj2
    exact h6 t s ht hs e1 e2 j hj1 hj2
  · rw [hne t (by omega) (by omega)]
    exact h7.2 t ht
end Go.Proofs.Ybulkamzi
