import Derived.Test.YbulkamziPlainB
namespace Go.Proofs.Ybulkamzi
open Go.RowKit
set_option linter.unusedVariables false

theorem Pow.next {n : Nat} (h : Pow n) (f t : Nat) (hf : f < n) : bits .and .u64 ((P n f t : Int) + 1) ((n : Int) - 1) = (P n f (t + 1) : Int) := by
  have h1 := P_lt (t := t) hf
  have h2 := h.le
  have := h.and (P n f t + 1) (by omega)
  rw [P_next] at this
  rw [← this]
  rfl

/-- at, the answer parted. -/
theorem at_none (tb gb n p : Nat) (rb spot : Nat → Nat) (R : Nat → Option Nat) (hn : Pow n) (hp : p < n) (w : World) (h : Tab w tb gb n rb spot R) (hR : R p = none) :
    Calls Yba.prog 18 #[.pointer (some ⟨tb, 0, none⟩), .int .u64 p] w fun e w' => e = .returned (.pointer none) ∧ w' = w := by
  have := at_n tb gb n p rb spot R hn hp w h; rw [hR] at this; exact this
theorem at_some (tb gb n p k : Nat) (rb spot : Nat → Nat) (R : Nat → Option Nat) (hn : Pow n) (hp : p < n) (w : World) (h : Tab w tb gb n rb spot R) (hR : R p = some k) :
    Calls Yba.prog 18 #[.pointer (some ⟨tb, 0, none⟩), .int .u64 p] w fun e w' => e = .returned (.pointer (some ⟨rb k, 0, none⟩)) ∧ w' = w := by
  have := at_n tb gb n p rb spot R hn hp w h; rw [hR] at this; exact this
theorem spotAt_some (tb gb n p k : Nat) (rb spot : Nat → Nat) (R : Nat → Option Nat) (hn : Pow n) (hp : p < n) (w : World) (h : Tab w tb gb n rb spot R) (hR : R p = some k) :
    Calls Yba.prog 19 #[.pointer (some ⟨tb, 0, none⟩), .int .u64 p] w fun e w' => e = .returned (.int .u32 (spot k : Nat)) ∧ w' = w := by
  have := spotAt_n tb gb n p rb spot R hn hp w h; rw [hR] at this; exact this

set_option maxHeartbeats 1000000 in
set_option maxRecDepth 100000 in
/-- (*nameTable).put. -/
theorem put_walk (tb gb n k : Nat) (rb spot : Nat → Nat) (R : Nat → Option Nat) (hn : Pow n) (w : World) (h : Tab w tb gb n rb spot R) (v : Value) (hk : w.cell? ⟨rb k, 0, none⟩ = some v) (hkg : rb k ≠ gb) (hs : spot k < 4294967296)
    (he : ∃ e, e < n ∧ R e = none) :
    Calls Yba.prog 12 #[.pointer (some ⟨tb, 0, none⟩), .pointer (some ⟨rb k, 0, none⟩), .int .u32 (spot k : Nat)] w fun e w' => e = .returned (.tuple #[]) ∧ ∃ T, T < n ∧ (∀ t, t < T → R (P n (spot k % n) t) ≠ none) ∧ R (P n (spot k % n) T) = none ∧
      w' = putAt w gb (P n (spot k % n) T) (some ⟨rb k, 0, none⟩) (spot k : Nat) := by
  obtain ⟨e, hen, heR⟩ := he
  have hst : spot k % n < n := Nat.mod_lt _ (by omega)
  have ST := hidB (start_n tb gb n (spot k) rb spot R hn hs w h)
  have MA := hidB (mask_n tb gb n rb spot R hn w h)
  have HT := hidB h
  obtain ⟨s, es⟩ : ∃ s, s = spot k % n := ⟨_, rfl⟩
  rw [← es] at ST hst ⊢
  obtain ⟨D, hD, hPD⟩ := P_surj hst hen
  have HN := hidB hn
  have SETW : Hid (∀ p, p < n → Calls Yba.prog 30 #[.pointer (some ⟨tb, 0, none⟩), .int .u64 p, .pointer (some ⟨rb k, 0, none⟩), .int .u32 (spot k : Nat)] w fun e w' => e = .returned (.tuple #[]) ∧ w' = putAt w gb p (some ⟨rb k, 0, none⟩) (spot k : Nat)) :=
    fun p hp => set_walk tb gb n p k rb spot R hn hp w h (spot k) v hk hkg
  have hle := hn.le
  obtain ⟨sp, esp⟩ : ∃ sp : Int, sp = ((spot k : Nat) : Int) := ⟨_, rfl⟩
  rw [← esp] at ST SETW ⊢
  have HPD := hidB hPD
  have HER := hidB heR
  clear h hk hn es esp hPD heR hs
  go_enter Yba.func12, Yba.ntmps12
  go_wp2_with (go_at_call 28; refine ST.out.mono ?_; rintro e w' ⟨rfl, rfl⟩)
  go_loopw [6] (fun i wr => ∃ T, T ≤ D ∧ i = .int .u64 (P n s T : Nat) ∧ (∀ t, t < T → R (P n s t) ≠ none) ∧ wr = w') (fun i _ => (((e : Int) - intOf i) % (n : Int)).toNat)
  case atStart => exact ⟨0, by omega, by rw [P_zero hst], by intro t ht; omega, rfl⟩
  case round =>
    obtain ⟨T, hTD, rfl, hfull, rfl⟩ := hrel
    replace hfull := hidB hfull
    have hpl : P n s T < n := P_lt hst
    cases hR : R (P n s T) with
    | none =>
      have A1 := hidB (at_none tb gb n _ rb spot R HN.out hpl wr HT.out hR)
      have S1 := hidB (SETW.out _ hpl)
      have RES : Hid (∃ T', T' < n ∧ (∀ t, t < T' → R (P n s t) ≠ none) ∧ R (P n s T') = none ∧ putAt wr gb (P n s T) (some ⟨rb k, 0, none⟩) sp = putAt wr gb (P n s T') (some ⟨rb k, 0, none⟩) sp) := ⟨T, by omega, hfull.out, hR, rfl⟩
      clear hR hfull
      obtain ⟨p, ep⟩ : ∃ p, p = P n s T := ⟨_, rfl⟩
      rw [← ep] at A1 S1 hpl RES ⊢
      clear ep
      go_wp2_with (first | (go_at_call 18; refine A1.out.mono ?_; rintro e w' ⟨rfl, rfl⟩) | (go_at_call 30; refine S1.out.mono ?_; rintro e w' ⟨rfl, rfl⟩))
      go_end0
      exact ⟨rfl, RES.out⟩
    | some j =>
      have A1 := hidB (at_some tb gb n _ j rb spot R HN.out hpl wr HT.out hR)
      have nx := HN.out.next s T hst
      have hne : T ≠ D := fun e => by subst e; rw [HPD.out, HER.out] at hR; cases hR
      have m1 := P_dist hst (show T ≤ D from hTD) hD
      have m2 := P_dist hst (show T + 1 ≤ D by omega) hD
      rw [HPD.out] at m1 m2
      have hf2 : Hid (∀ t, t < T + 1 → R (P n s t) ≠ none) := fun t ht => by
        by_cases e : t = T
        · subst e; rw [hR]; simp
        · exact hfull.out t (by omega)
      have MM : Hid ((((e : Int) - (P n s (T + 1) : Nat)) % (n : Int)).toNat < (((e : Int) - (P n s T : Nat)) % (n : Int)).toNat) := by
        show _ < _
        rw [m1, m2]; omega
      clear hR hfull m1 m2
      have RL : Hid (∃ T', T' ≤ D ∧ (Value.int .u64 (P n s (T + 1) : Nat)) = .int .u64 (P n s T' : Nat) ∧ (∀ t, t < T' → R (P n s t) ≠ none) ∧ wr = wr) := ⟨T + 1, by omega, rfl, hf2.out, rfl⟩
      obtain ⟨p, ep⟩ : ∃ p, p = P n s T := ⟨_, rfl⟩
      obtain ⟨p', ep'⟩ : ∃ p, p = P n s (T + 1) := ⟨_, rfl⟩
      rw [← ep] at A1 hpl MM nx ⊢
      rw [← ep'] at nx MM RL
      clear ep ep' hf2
      go_wp2_with (first | (go_at_call 18; refine A1.out.mono ?_; rintro e w' ⟨rfl, rfl⟩) | (go_at_call 29; refine MA.out.mono ?_; rintro e w' ⟨rfl, rfl⟩))
      go_roundw
      case rel => exact RL.out
      case measure => exact MM.out
end Go.Proofs.Ybulkamzi
