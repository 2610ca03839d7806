import Derived.Test.YbulkamziStepB
namespace Go.Proofs.Ybulkamzi
open Go.RowKit
set_option linter.unusedVariables false
set_option linter.unusedSimpArgs false

theorem cntB_one {f : Nat → Bool} {n p0 : Nat} (h0 : p0 < n) (h1 : f p0 = true) (h2 : ∀ p, p < n → f p = true → p = p0) : cntB f n = 1 := by
  have e : cntB f n = cntB (fun p => p == p0) n := cntB_congr fun j hj => by
    by_cases e : j = p0
    · subst e; simp [h1]
    · have : f j = false := by
        cases hf : f j with
        | false => rfl
        | true => exact absurd (h2 j hj hf) e
      simp [this, e]
  rw [e, cntB_set (f := fun _ => false) h0 rfl (by simp) (fun j e => by simp [e]), cntB_false (fun _ => rfl)]
theorem cntB_zero {f : Nat → Bool} {n : Nat} (h : ∀ p, p < n → f p = false) : cntB f n = 0 := by
  rw [cntB_congr (g := fun _ => false) h, cntB_false (fun _ => rfl)]

/-- What prune leaves, said of the entries. -/
structure Done (w5 : World) (B m n f : Nat) (rb spot kd : Nat → Nat) (ct : Nat → Bool) (ln : Nat → Option Addr) (R : Nat → Option Nat) : Prop where
  tab : Tab w5 (B + 1) B n rb spot R
  res : ∀ k, k < m → Res w5 (rb k) (lkO kd k) (ln k) (flO kd k) (if kd k = 0 then 1 else if kd k = 3 then tf0 ct k else 0)
  sh : ∃ tg, Sh w5 (B + 2) tg (cntB (fun k => kd k == 0) m % 31) (min (cntB (fun k => kd k == 0) m) 31) (-((cntB (fun k => ct k && kd k != 3) m : Nat) : Int)) ∧
    (cntB (fun k => kd k == 0) m ≤ 31 → ∀ k, k < m → kd k = 0 → ∃ i, i < cntB (fun k => kd k == 0) m ∧ tg i = tagN (spot k))
  occ0 : ∀ k, k < m → kd k = 0 → cntB (fun p => R p == some k) n = 0
  occ1 : ∀ k, k < m → kd k ≠ 0 → cntB (fun p => R p == some k) n = 1
  mem : ∀ p k, p < n → R p = some k → k < m
  good : Good n spot f R
  emp : R f = none

theorem pst_seen {w : World} {tb gb sb m n f : Nat} {rb spot kd : Nat → Nat} {ct : Nat → Bool} {ln : Nat → Option Addr} {R : Nat → Option Nat} {st : Nat → Nat} (h : PSt w tb gb sb m n f rb spot kd ct ln R st n) (k : Nat) (hk : k < m) :
    (kd k = 0 ∧ st k = 2) ∨ (kd k ≠ 0 ∧ st k = 1) := by
  obtain ⟨a, b, c⟩ := h.kinds k hk
  have h0 : st k ≠ 0 := fun e => by
    obtain ⟨t, ht, htk⟩ := h.inv.all k hk (by omega)
    have := (h.inv.mem t ht k htk).2.1 ht
    omega
  rcases (by omega : st k = 1 ∨ st k = 2) with e | e
  · exact .inr ⟨b e, e⟩
  · exact .inl ⟨c e, e⟩

theorem pst_done {w6 : World} {B m n f : Nat} {rb spot kd : Nat → Nat} {ct : Nat → Bool} {ln : Nat → Option Addr} {R : Nat → Option Nat} {st : Nat → Nat} (hf : f < n) (E : Env (B + 1) B (B + 2) m rb spot) (h : PSt w6 (B + 1) B (B + 2) m n f rb spot kd ct ln R st n) (u : Nat) (hu : u = cntB (unc kd ct st) m) :
    Done (w6.setCell ⟨B + 2, 73, none⟩ (.int .i64 (-(u : Int)))) B m n f rb spot kd ct ln R ∧ cntB (kept st) m = cntB (fun k => kd k != 0) m := by
  have hs := pst_seen h
  have c2 : cntB (fun k => st k == 2) m = cntB (fun k => kd k == 0) m := cntB_congr fun k hk => by
    rcases hs k hk with ⟨e1, e2⟩ | ⟨e1, e2⟩ <;> simp [e1, e2]
  have cu : u = cntB (fun k => ct k && kd k != 3) m := by
    rw [hu]
    exact cntB_congr fun k hk => by rcases hs k hk with ⟨e1, e2⟩ | ⟨e1, e2⟩ <;> simp [unc, e1, e2]
  have ch : Chg (fun b => b = B + 2) w6 (w6.setCell ⟨B + 2, 73, none⟩ (.int .i64 (-(u : Int)))) := (Chg.refl (fun b => b = B + 2) w6).setCell (show B + 2 = B + 2 from rfl) _
  obtain ⟨tg, s1, s2⟩ := h.sh
  have s3 := s1.idle (-(u : Int))
  rw [c2] at s3 s2
  refine ⟨⟨h.tab.chg ch (by omega) (by omega), fun k hk => ?_, ⟨tg, by rw [← cu]; exact s3, fun hc k hk h0 => ?_⟩, fun k hk h0 => ?_, fun k hk h0 => ?_, fun p k hp hk => ?_, h.inv.good, by have := h.inv.emp; rw [P_zero hf] at this; exact this⟩, ?_⟩
  · have r := (h.res k hk).of_heap (ch.block _ (E.rs k))
    have e : tfS kd ct (st k) k = if kd k = 0 then 1 else if kd k = 3 then tf0 ct k else 0 := by
      rcases hs k hk with ⟨e1, e2⟩ | ⟨e1, e2⟩ <;> simp [tfS, e1, e2]
    rw [e] at r; exact r
  · rcases hs k hk with ⟨e1, e2⟩ | ⟨e1, e2⟩
    · exact s2 hc k hk e2
    · exact absurd h0 e1
  · refine cntB_zero fun p hp => ?_
    cases hR : R p with
    | none => rfl
    | some j =>
      have : j ≠ k := fun e => by
        subst e
        obtain ⟨t, ht, htp⟩ := P_surj hf hp
        rw [← htp] at hR
        have h1 := (h.inv.mem t ht j hR).2.1 ht
        rcases hs j hk with ⟨_, e2⟩ | ⟨e1, _⟩
        · omega
        · exact e1 h0
      simp [this]
  · obtain ⟨t, ht, htk⟩ := h.inv.all k hk (by rcases hs k hk with ⟨e1, _⟩ | ⟨_, e2⟩ <;> omega)
    refine cntB_one (P_lt hf) (by rw [htk]; simp) fun p hp he => ?_
    obtain ⟨t', ht', htp⟩ := P_surj hf hp
    rw [← htp] at he ⊢
    rw [h.inv.uniq t' t ht' ht k (by simpa using he) htk]
  · obtain ⟨t, ht, htp⟩ := P_surj hf hp
    rw [← htp] at hk
    exact (h.inv.mem t ht k hk).1
  · exact cntB_congr fun k hk => by rcases hs k hk with ⟨e1, e2⟩ | ⟨e1, e2⟩ <;> simp [kept, e1, e2]
end Go.Proofs.Ybulkamzi
