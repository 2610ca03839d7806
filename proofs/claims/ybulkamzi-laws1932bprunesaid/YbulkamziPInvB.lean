import Derived.Test.YbulkamziTakeB
namespace Go.Proofs.Ybulkamzi
open Go.RowKit
set_option linter.unusedVariables false
set_option linter.unusedSimpArgs false

def cntB (f : Nat → Bool) : Nat → Nat | 0 => 0 | k + 1 => cntB f k + (if f k = true then 1 else 0)
theorem cntB_congr {f g : Nat → Bool} : ∀ {m : Nat}, (∀ j, j < m → f j = g j) → cntB f m = cntB g m
  | 0, _ => rfl
  | m + 1, h => by simp only [cntB]; rw [cntB_congr (m := m) (fun j hj => h j (by omega)), h m (by omega)]
theorem cntB_set {f g : Nat → Bool} {k : Nat} : ∀ {m : Nat}, k < m → f k = false → g k = true → (∀ j, j ≠ k → g j = f j) → cntB g m = cntB f m + 1
  | 0, h, _, _, _ => by omega
  | m + 1, h, h1, h2, h3 => by
    simp only [cntB]
    by_cases e : k = m
    · subst e
      rw [cntB_congr (m := k) (f := g) (g := f) (fun j hj => h3 j (by omega)), h1, h2]; simp
    · rw [cntB_set (m := m) (by omega) h1 h2 h3, h3 m (by omega)]; omega
theorem cntB_le (f : Nat → Bool) : ∀ m, cntB f m ≤ m
  | 0 => Nat.le_refl _
  | m + 1 => by simp only [cntB]; have := cntB_le f m; split <;> omega

/-- prune's table: places before q hold tops that were kept, those from q on tops not yet met. -/
structure PInv (n m f : Nat) (spot : Nat → Nat) (R : Nat → Option Nat) (st : Nat → Nat) (q : Nat) : Prop where
  emp : R (P n f 0) = none
  good : Good n spot f R
  mem : ∀ t, t < n → ∀ k, R (P n f t) = some k → k < m ∧ (t < q → st k = 1) ∧ (q ≤ t → st k = 0)
  uniq : ∀ t s, t < n → s < n → ∀ k, R (P n f t) = some k → R (P n f s) = some k → t = s
  all : ∀ k, k < m → st k ≠ 2 → ∃ t, t < n ∧ R (P n f t) = some k

theorem PInv.skip {n m f : Nat} {spot : Nat → Nat} {R : Nat → Option Nat} {st : Nat → Nat} {q : Nat} (h : PInv n m f spot R st q) (hR : R (P n f q) = none) : PInv n m f spot R st (q + 1) := by
  obtain ⟨h1, h2, h3, h4, h5⟩ := h
  refine ⟨h1, h2, fun t ht k hk => ?_, h4, h5⟩
  obtain ⟨a, b, c⟩ := h3 t ht k hk
  have : t ≠ q := fun e => by subst e; rw [hR] at hk; cases hk
  exact ⟨a, fun h => b (by omega), fun h => c (by omega)⟩
theorem PInv.keep {n m f : Nat} {spot : Nat → Nat} {R : Nat → Option Nat} {st : Nat → Nat} {q k : Nat} (h : PInv n m f spot R st q) (hq : q < n) (hR : R (P n f q) = some k) : PInv n m f spot R (updB st k 1) (q + 1) := by
  obtain ⟨h1, h2, h3, h4, h5⟩ := h
  refine ⟨h1, h2, fun t ht j hj => ?_, h4, fun j hj hs => ?_⟩
  · obtain ⟨a, b, c⟩ := h3 t ht j hj
    by_cases e : j = k
    · subst e
      have := h4 t q ht hq j hj hR
      rw [updB_same]
      exact ⟨a, fun _ => rfl, fun h => by omega⟩
    · have : t ≠ q := fun e' => by subst e'; rw [hR] at hj; cases hj; exact e rfl
      rw [updB_other _ _ _ _ e]
      exact ⟨a, fun h => b (by omega), fun h => c (by omega)⟩
  · by_cases e : j = k
    · subst e; exact ⟨q, hq, hR⟩
    · rw [updB_other _ _ _ _ e] at hs; exact h5 j hj hs
theorem PInv.take {n m f : Nat} {spot : Nat → Nat} {R R' : Nat → Option Nat} {st : Nat → Nat} {q k : Nat} (h : PInv n m f spot R st q) (hq : q < n) (hR : R (P n f q) = some k) (hd : RemDone n spot f R q k R') : PInv n m f spot R' (updB st k 2) q := by
  obtain ⟨h1, h2, h3, h4, h5⟩ := h
  refine ⟨hd.emp, hd.good, fun t ht j hj => ?_, hd.uniq, fun j hj hs => ?_⟩
  · obtain ⟨e, t', c1, c2, c3⟩ := hd.from0 t ht j hj
    obtain ⟨a, b, c⟩ := h3 t' c1 j c2
    rw [updB_other _ _ _ _ e]
    refine ⟨a, fun h => ?_, fun h => c (c3 h)⟩
    rw [hd.low t h] at hj
    exact (h3 t ht j hj).2.1 h
  · have e : j ≠ k := fun e => by subst e; rw [updB_same] at hs; exact hs rfl
    rw [updB_other _ _ _ _ e] at hs
    obtain ⟨t', c1, c2⟩ := h5 j hj hs
    exact hd.to1 t' c1 j c2 e

def lkO (kd : Nat → Nat) (k : Nat) : Int := if kd k = 3 then 1 else 0
def flO (kd : Nat → Nat) (k : Nat) : Int := if kd k = 2 then 1 else 0
def tf0 (ct : Nat → Bool) (k : Nat) : Int := if ct k = true then 2 else 0
def tfS (kd : Nat → Nat) (ct : Nat → Bool) (s k : Nat) : Int := if s = 0 then tf0 ct k else if s = 2 then 1 else if kd k = 3 then tf0 ct k else 0

structure PSt (w : World) (tb gb sb m n f : Nat) (rb spot kd : Nat → Nat) (ct : Nat → Bool) (ln : Nat → Option Addr) (R : Nat → Option Nat) (st : Nat → Nat) (q : Nat) : Prop where
  tab : Tab w tb gb n rb spot R
  res : ∀ k, k < m → Res w (rb k) (lkO kd k) (ln k) (flO kd k) (tfS kd ct (st k) k)
  sh : ∃ tg, Sh w sb tg (cntB (fun k => st k == 2) m % 31) (min (cntB (fun k => st k == 2) m) 31) 0 ∧ (cntB (fun k => st k == 2) m ≤ 31 → ∀ k, k < m → st k = 2 → ∃ i, i < cntB (fun k => st k == 2) m ∧ tg i = tagN (spot k))
  inv : PInv n m f spot R st q
  kinds : ∀ k, k < m → st k ≤ 2 ∧ (st k = 1 → kd k ≠ 0) ∧ (st k = 2 → kd k = 0)

def unc (kd : Nat → Nat) (ct : Nat → Bool) (st : Nat → Nat) (k : Nat) : Bool := st k != 0 && (ct k && kd k != 3)

theorem PSt.skip {w : World} {tb gb sb m n f : Nat} {rb spot kd : Nat → Nat} {ct : Nat → Bool} {ln : Nat → Option Addr} {R : Nat → Option Nat} {st : Nat → Nat} {q : Nat} (h : PSt w tb gb sb m n f rb spot kd ct ln R st q) (hR : R (P n f q) = none) :
    PSt w tb gb sb m n f rb spot kd ct ln R st (q + 1) := ⟨h.tab, h.res, h.sh, h.inv.skip hR, h.kinds⟩

theorem PSt.keep {w w' : World} {tb gb sb m n f : Nat} {rb spot kd : Nat → Nat} {ct : Nat → Bool} {ln : Nat → Option Addr} {R : Nat → Option Nat} {st : Nat → Nat} {q k : Nat} (h : PSt w tb gb sb m n f rb spot kd ct ln R st q) (E : Env tb gb sb m rb spot)
    (hq : q < n) (hR : R (P n f q) = some k) (hkd : kd k ≠ 0) (hc : Chg (fun b => b = rb k) w w') (hr : Res w' (rb k) (lkO kd k) (ln k) (flO kd k) (tfS kd ct 1 k)) :
    PSt w' tb gb sb m n f rb spot kd ct ln R (updB st k 1) (q + 1) := by
  obtain ⟨h1, h2, ⟨tg, h3, h4⟩, h5, h6⟩ := h
  obtain ⟨hkm, _, hst⟩ := h5.mem q hq k hR
  have hst0 := hst (Nat.le_refl _)
  have hcnt : cntB (fun j => updB st k 1 j == 2) m = cntB (fun j => st j == 2) m := cntB_congr fun j hj => by
    by_cases e : j = k
    · subst e; rw [updB_same, hst0]; rfl
    · rw [updB_other _ _ _ _ e]
  refine ⟨h1.chg hc (fun e => E.rt k e.symm) (fun e => E.rg k e.symm), fun j hj => ?_, ⟨tg, ?_, ?_⟩, h5.keep hq hR, fun j hj => ?_⟩
  · by_cases e : j = k
    · subst e; rw [updB_same]; exact hr
    · rw [updB_other _ _ _ _ e]; exact (h2 j hj).of_heap (hc.block _ (fun e' => e (E.inj j k hj hkm e')))
  · rw [hcnt]; exact h3.of_heap (hc.block _ (fun e => E.rs k e.symm))
  · rw [hcnt]
    intro hle j hj hs
    by_cases e : j = k
    · subst e; rw [updB_same] at hs; cases hs
    · rw [updB_other _ _ _ _ e] at hs; exact h4 hle j hj hs
  · by_cases e : j = k
    · subst e; rw [updB_same]; exact ⟨by omega, fun _ => hkd, fun h => by cases h⟩
    · rw [updB_other _ _ _ _ e]; exact h6 j hj

theorem PSt.take {w w' : World} {tb gb sb m n f : Nat} {rb spot kd : Nat → Nat} {ct : Nat → Bool} {ln : Nat → Option Addr} {R R' : Nat → Option Nat} {st : Nat → Nat} {q k : Nat} {tg : Nat → Nat} (h : PSt w tb gb sb m n f rb spot kd ct ln R st q) (E : Env tb gb sb m rb spot)
    (hq : q < n) (hR : R (P n f q) = some k) (hkd : kd k = 0) (hc : Chg (fun b => b = gb ∨ b = sb ∨ b = rb k) w w') (hr : Res w' (rb k) (lkO kd k) (ln k) (flO kd k) 1) (hd : RemDone n spot f R q k R') (ht : Tab w' tb gb n rb spot R')
    (htg : cntB (fun k => st k == 2) m ≤ 31 → ∀ k, k < m → st k = 2 → ∃ i, i < cntB (fun k => st k == 2) m ∧ tg i = tagN (spot k))
    (hs : Sh w' sb (updB tg (cntB (fun k => st k == 2) m % 31) (tagN (spot k))) ((cntB (fun k => st k == 2) m % 31 + 1) % 31) (min (min (cntB (fun k => st k == 2) m) 31 + 1) 31) 0) :
    PSt w' tb gb sb m n f rb spot kd ct ln R' (updB st k 2) q := by
  obtain ⟨h1, h2, _, h5, h6⟩ := h
  obtain ⟨hkm, _, hst⟩ := h5.mem q hq k hR
  have hst0 := hst (Nat.le_refl _)
  have hcnt : cntB (fun j => updB st k 2 j == 2) m = cntB (fun j => st j == 2) m + 1 := cntB_set hkm (by show (st k == 2) = false; rw [hst0]; rfl) (by show (updB st k 2 k == 2) = true; rw [updB_same]; rfl) (fun j e => by show (updB st k 2 j == 2) = (st j == 2); rw [updB_other _ _ _ _ e])
  refine ⟨ht, fun j hj => ?_, ⟨updB tg (cntB (fun k => st k == 2) m % 31) (tagN (spot k)), ?_, ?_⟩, h5.take hq hR hd, fun j hj => ?_⟩
  · by_cases e : j = k
    · subst e; rw [updB_same]; exact hr
    · rw [updB_other _ _ _ _ e]
      refine (h2 j hj).of_heap (hc.block _ ?_)
      rintro (e1 | e1 | e1)
      · exact E.rg j e1
      · exact E.rs j e1
      · exact e (E.inj j k hj hkm e1)
  · rw [hcnt]
    generalize cntB (fun j => st j == 2) m = c at hs ⊢
    rw [show (c + 1) % 31 = (c % 31 + 1) % 31 by omega, show min (c + 1) 31 = min (min c 31 + 1) 31 by omega]
    exact hs
  · rw [hcnt]
    intro hle j hj hs'
    by_cases e : j = k
    · subst e
      refine ⟨cntB (fun j => st j == 2) m, by omega, ?_⟩
      rw [show cntB (fun j => st j == 2) m % 31 = cntB (fun j => st j == 2) m from Nat.mod_eq_of_lt (by omega), updB_same]
    · rw [updB_other _ _ _ _ e] at hs'
      obtain ⟨i, i1, i2⟩ := htg (by omega) j hj hs'
      refine ⟨i, by omega, ?_⟩
      rw [updB_other _ _ _ _ (by omega)]
      exact i2
  · by_cases e : j = k
    · subst e; rw [updB_same]; exact ⟨by omega, fun h => (by cases h), fun _ => hkd⟩
    · rw [updB_other _ _ _ _ e]; exact h6 j hj
end Go.Proofs.Ybulkamzi
