import Derived.Test.YbulkamziPInvB
namespace Go.Proofs.Ybulkamzi
open Go.RowKit
set_option linter.unusedVariables false
set_option linter.unusedSimpArgs false

def unseen (st : Nat → Nat) (k : Nat) : Bool := st k == 0
def kept (st : Nat → Nat) (k : Nat) : Bool := st k == 1

/-- What prune's loop carries. -/
def PRel (w : World) (tb gb sb m n f : Nat) (rb spot kd : Nat → Nat) (ct : Nat → Bool) (ln : Nat → Option Addr) (gk : Nat) (lv uv pv iv : Value) (wr : World) : Prop :=
  ∃ R st q, q ≤ n ∧ lv = .int .i64 (cntB (kept st) m : Nat) ∧ uv = .int .i64 (cntB (unc kd ct st) m : Nat) ∧ pv = .int .i64 (q : Nat) ∧ iv = .int .u64 (P n f q : Nat) ∧
    PSt wr tb gb sb m n f rb spot kd ct ln R st q ∧ Chg (fun b => b = gb ∨ b = sb ∨ ∃ k, k < m ∧ b = rb k) w wr ∧ n - q + cntB (unseen st) m ≤ gk

theorem unseen_set {st : Nat → Nat} {m k v : Nat} (hk : k < m) (h0 : st k = 0) (hv : v ≠ 0) : cntB (unseen st) m = cntB (unseen (updB st k v)) m + 1 :=
  cntB_set hk (by simp [unseen, updB, hv]) (by simp [unseen, h0]) (fun j e => by simp [unseen, updB, e])
theorem kept_set {st : Nat → Nat} {m k : Nat} (hk : k < m) (h0 : st k = 0) : cntB (kept (updB st k 1)) m = cntB (kept st) m + 1 :=
  cntB_set hk (by simp [kept, h0]) (by simp [kept, updB]) (fun j e => by simp [kept, updB, e])
theorem kept_same {st : Nat → Nat} {m k : Nat} (h0 : st k = 0) : cntB (kept (updB st k 2)) m = cntB (kept st) m :=
  cntB_congr fun j hj => by by_cases e : j = k <;> simp [kept, updB, e, h0]
theorem unc_set {kd : Nat → Nat} {ct : Nat → Bool} {st : Nat → Nat} {m k v : Nat} (hk : k < m) (h0 : st k = 0) (hv : v ≠ 0) (hc : ct k = true) (hd : kd k ≠ 3) : cntB (unc kd ct (updB st k v)) m = cntB (unc kd ct st) m + 1 :=
  cntB_set hk (by simp [unc, h0]) (by simp [unc, updB, hv, hc, hd]) (fun j e => by simp [unc, updB, e])
theorem unc_same {kd : Nat → Nat} {ct : Nat → Bool} {st : Nat → Nat} {m k v : Nat} (h0 : st k = 0) (hc : ct k = false ∨ kd k = 3) : cntB (unc kd ct (updB st k v)) m = cntB (unc kd ct st) m :=
  cntB_congr fun j hj => by
    by_cases e : j = k
    · subst e; rcases hc with h | h <;> simp [unc, h, h0]
    · simp [unc, updB, e]

theorem cntB_false {f : Nat → Bool} (h : ∀ j, f j = false) : ∀ m, cntB f m = 0
  | 0 => rfl
  | m + 1 => by simp only [cntB]; rw [cntB_false h m, h m]; simp
theorem tfS_one {kd : Nat → Nat} {ct : Nat → Bool} {k : Nat} (h : kd k ≠ 3) : tfS kd ct 1 k = 0 := by simp [tfS, h]

set_option maxHeartbeats 8000000 in
set_option maxRecDepth 100000 in
/-- (*shard).prune. -/
theorem prune_walk (tb gb sb m n : Nat) (rb spot kd : Nat → Nat) (ct : Nat → Bool) (ln : Nat → Option Addr) (R0 : Nat → Option Nat) (E : Env tb gb sb m rb spot) (hn : Pow n) (hm : m ≤ 32) (w : World)
    (hln : ∀ k, k < m → (kd k = 1 → ∃ x, ln k = some x) ∧ (kd k ≠ 1 → ln k = none)) (hkd : ∀ k, kd k < 4)
    (hfree : ∃ f, f < n ∧ R0 f = none) (hst : ∀ f, f < n → R0 f = none → PSt w tb gb sb m n f rb spot kd ct ln R0 (fun _ => 0) 0) :
    Calls Yba.prog 13 #[.pointer (some ⟨sb, 0, none⟩), .pointer (some ⟨tb, 0, none⟩)] w fun e w' => ∃ (f : Nat) (R : Nat → Option Nat) (st : Nat → Nat) (u : Nat), f < n ∧ u = cntB (unc kd ct st) m ∧ e = .returned (.int .i64 (cntB (kept st) m : Nat)) ∧
      Chg (fun b => b = gb ∨ b = sb ∨ ∃ k, k < m ∧ b = rb k) w w' ∧ ∃ w1, PSt w1 tb gb sb m n f rb spot kd ct ln R st n ∧ w' = w1.setCell ⟨sb, 73, none⟩ (.int .i64 (-(u : Int))) := by
  obtain ⟨e0, he0, he1⟩ := hfree
  have T0 := hidB (hst e0 he0 he1).tab
  have HST := hidB hst
  have HN := hidB hn
  have HE := hidB E
  have HL := hidB hln
  have HK := hidB hkd
  have hle := hn.le
  have HE1 := hidB he1
  clear hst hn E hln hkd he1
  go_enter Yba.func13, Yba.ntmps13
  go_wp2
  go_loopw [5] (fun v wr => ∃ p, p ≤ e0 ∧ v = .int .u64 (p : Nat) ∧ wr = w) (fun v _ => e0 - (intOf v).toNat)
  case atStart => exact ⟨0, by omega, rfl, rfl⟩
  case round =>
    obtain ⟨p, hp, rfl, rfl⟩ := hrel
    cases hR : R0 p with
    | some k =>
      have A1 := hidB (at_some tb gb n p k rb spot R0 HN.out (by omega) wr T0.out hR)
      have hne : p ≠ e0 := fun e => by subst e; rw [HE1.out] at hR; cases hR
      clear hR
      go_wp2_with (go_at_call 18; refine A1.out.mono ?_; rintro e w' ⟨rfl, rfl⟩)
      go_roundw
      case rel => exact ⟨p + 1, by omega, by go_num, trivial⟩
      case measure => simp [intOf]; omega
    | none =>
      have A1 := hidB (at_none tb gb n p rb spot R0 HN.out (by omega) wr T0.out hR)
      have hpn : p < n := by omega
      have PS := hidB (HST.out p hpn hR)
      clear hR
      go_wp2_with (go_at_call 18; refine A1.out.mono ?_; rintro e w' ⟨rfl, rfl⟩)
      have START : Hid (PRel w' tb gb sb m n p rb spot kd ct ln (n + m) (.int .i64 0) (.int .i64 0) (.int .i64 0) (.int .u64 (p : Nat)) w') := by
        refine ⟨R0, fun _ => 0, 0, by omega, ?_, ?_, rfl, by rw [P_zero hpn], PS.out, Chg.refl _ _, ?_⟩
        · rw [cntB_false (f := kept fun _ => 0) (fun j => rfl)]; rfl
        · rw [cntB_false (f := unc kd ct fun _ => 0) (fun j => rfl)]; rfl
        · have := cntB_le (unseen fun _ => 0) m; omega
      clear PS A1 T0 HST
      go_loopg [6, 7, 8, 9] (n + m) (fun gk lv uv pv iv wr => PRel w' tb gb sb m n p rb spot kd ct ln gk lv uv pv iv wr)
      case atStart => exact START.out
      case round =>
        clear START
        obtain ⟨R, st, q, hqn, rfl, rfl, rfl, rfl, hps, hchg, hgk⟩ := hrel
        have hpl : P n p q < n := P_lt hpn
        have SZ := hidB (size_n tb gb n rb spot R HN.out wr hps.tab)
        have MA := hidB (mask_n tb gb n rb spot R HN.out wr hps.tab)
        have nx := HN.out.next p q hpn
        have hl1 := cntB_le (kept st) m
        have hu1 := cntB_le (unc kd ct st) m
        by_cases hq : q < n
        · cases hR : R (P n p q) with
          | none =>
            have A1 := hidB (at_none tb gb n _ rb spot R HN.out hpl wr hps.tab hR)
            have RL : Hid (PRel w' tb gb sb m n p rb spot kd ct ln (gk - 1) (.int .i64 (cntB (kept st) m : Nat)) (.int .i64 (cntB (unc kd ct st) m : Nat)) (.int .i64 ((q : Int) + 1)) (.int .u64 (P n p (q + 1) : Nat)) wr) :=
              ⟨R, st, q + 1, by omega, rfl, rfl, rfl, rfl, hps.skip hR, hchg, by omega⟩
            have GK : Hid (gk - 1 < gk) := by show _ < _; omega
            clear hR hps hchg hgk
            obtain ⟨i, ei⟩ : ∃ i, i = P n p q := ⟨_, rfl⟩
            obtain ⟨i', ei'⟩ : ∃ i, i = P n p (q + 1) := ⟨_, rfl⟩
            obtain ⟨l, el⟩ : ∃ i, i = cntB (kept st) m := ⟨_, rfl⟩
            obtain ⟨u, eu⟩ : ∃ i, i = cntB (unc kd ct st) m := ⟨_, rfl⟩
            rw [← ei] at A1 nx hpl ⊢
            rw [← ei'] at nx RL
            rw [← el] at RL hl1 ⊢
            rw [← eu] at RL hu1 ⊢
            clear ei ei' el eu
            go_wp2_with (first | (go_at_call 31; refine SZ.out.mono ?_; rintro e w6 ⟨rfl, rfl⟩) | (go_at_call 18; refine A1.out.mono ?_; rintro e w6 ⟨rfl, rfl⟩) | (go_at_call 29; refine MA.out.mono ?_; rintro e w6 ⟨rfl, rfl⟩))
            go_roundg (gk - 1)
            case measure => exact GK.out
            case rel => exact RL.out
          | some k =>
            obtain ⟨hkm, _, hst0⟩ := hps.inv.mem q hq k hR
            replace hst0 := hst0 (Nat.le_refl _)
            have A1 := hidB (at_some tb gb n _ k rb spot R HN.out hpl wr hps.tab hR)
            have hr := hps.res k hkm
            rw [hst0] at hr
            have htf : tfS kd ct 0 k = tf0 ct k := rfl
            rw [htf] at hr
            have GK : Hid (gk - 1 < gk) := by have := unseen_set (v := 1) hkm hst0 (by omega); show _ < _; omega
            have hun1 := unseen_set (v := 1) hkm hst0 (by omega)
            have hun2 := unseen_set (v := 2) hkm hst0 (by omega)
            by_cases h3 : kd k = 3
            · have hr3 : Res wr (rb k) 1 (ln k) (flO kd k) (tf0 ct k) := by simpa [lkO, h3] using hr
              have TRY := hidB (try_held (rb k) _ _ _ wr hr3)
              have ht1 : tfS kd ct 1 k = tf0 ct k := by simp [tfS, h3]
              have RL : Hid (PRel w' tb gb sb m n p rb spot kd ct ln (gk - 1) (.int .i64 ((cntB (kept st) m : Nat) + 1 : Int)) (.int .i64 (cntB (unc kd ct st) m : Nat)) (.int .i64 ((q : Int) + 1)) (.int .u64 (P n p (q + 1) : Nat)) wr) :=
                ⟨R, updB st k 1, q + 1, by omega, by rw [kept_set hkm hst0]; rfl, by rw [unc_same hst0 (.inr h3)], rfl, rfl,
                  hps.keep HE.out hq hR (by omega) (Chg.refl _ _) (by rw [ht1]; exact hr), hchg, by omega⟩
              clear hR hps hchg hgk hr hr3 htf hun1 hun2 hst0 ht1
              obtain ⟨i, ei⟩ : ∃ i, i = P n p q := ⟨_, rfl⟩
              obtain ⟨i', ei'⟩ : ∃ i, i = P n p (q + 1) := ⟨_, rfl⟩
              obtain ⟨l, el⟩ : ∃ i, i = cntB (kept st) m := ⟨_, rfl⟩
              obtain ⟨u, eu⟩ : ∃ i, i = cntB (unc kd ct st) m := ⟨_, rfl⟩
              rw [← ei] at A1 nx hpl ⊢
              rw [← ei'] at nx RL
              rw [← el] at RL hl1 ⊢
              rw [← eu] at RL hu1 ⊢
              clear ei ei' el eu
              go_wp2_with (first | (go_at_call 31; refine SZ.out.mono ?_; rintro e w6 ⟨rfl, rfl⟩) | (go_at_call 18; refine A1.out.mono ?_; rintro e w6 ⟨rfl, rfl⟩) | (go_at_call 32; refine TRY.out.mono ?_; rintro e w6 ⟨rfl, rfl⟩) | (go_at_call 29; refine MA.out.mono ?_; rintro e w6 ⟨rfl, rfl⟩))
              go_roundg (gk - 1)
              case measure => exact GK.out
              case rel => exact RL.out
            · have hr0 : Res wr (rb k) 0 (ln k) (flO kd k) (tf0 ct k) := by simpa [lkO, h3] using hr
              have TRY := hidB (try_free (rb k) _ _ _ wr hr0)
              have res1 := hr0.lock 1
              have ch1 : Chg (fun b => b = rb k) wr (wr.setCell ⟨rb k, 0, none⟩ (.int .i32 1)) := (Chg.refl (fun b => b = rb k) wr).setCell (show rb k = rb k from rfl) _
              have c8 := res1.cells.2.2.2.2
              have f8 := res1.frozen 8
              have hln1 := HL.out k hkm
              have hk4 := HK.out k
              obtain ⟨tg, hsh, htg⟩ := hps.sh
              -- kept
              have KEEP : Hid (∀ w2, Res w2 (rb k) 1 (ln k) (flO kd k) 0 → Chg (fun b => b = rb k) wr w2 → kd k ≠ 0 → ∀ u2 : Nat, cntB (unc kd ct (updB st k 1)) m = u2 →
                  (Calls Yba.prog 33 #[.pointer (some ⟨rb k, 0, none⟩)] w2 fun e w' => e = .returned (.bool false) ∧ w' = w2) ∧
                  ∃ w3, (Calls Yba.prog 34 #[.pointer (some ⟨rb k, 0, none⟩)] w2 fun e w' => e = .returned (.tuple #[]) ∧ w' = w3) ∧
                  (Calls Yba.prog 29 #[.pointer (some ⟨tb, 0, none⟩)] w3 fun e w' => e = .returned (.int .u64 ((n : Int) - 1)) ∧ w' = w3) ∧
                  PRel w' tb gb sb m n p rb spot kd ct ln (gk - 1) (.int .i64 ((cntB (kept st) m : Nat) + 1 : Int)) (.int .i64 (u2 : Nat)) (.int .i64 ((q : Int) + 1)) (.int .u64 (P n p (q + 1) : Nat)) w3) := by
                intro w2 r2 c2 h0 u2 hu2
                have c3 : Chg (fun b => b = rb k) wr (w2.setCell ⟨rb k, 0, none⟩ (.int .i32 0)) := c2.setCell (show rb k = rb k from rfl) _
                have r3 := r2.lock 0
                have hlk : lkO kd k = 0 := by simp [lkO, h3]
                have ps3 := hps.keep HE.out hq hR h0 c3 (by rw [tfS_one h3, hlk]; exact r3)
                refine ⟨?_, _, unlock_walk (rb k) _ _ _ w2 r2, mask_n tb gb n rb spot R HN.out _ ps3.tab, ⟨R, updB st k 1, q + 1, by omega, by rw [kept_set hkm hst0]; rfl, by rw [hu2], rfl, rfl, ps3, hchg.trans (c3.mono fun b hb => .inr (.inr ⟨k, hkm, hb⟩)), by omega⟩⟩
                by_cases h1 : kd k = 1
                · obtain ⟨x, hx⟩ := hln1.1 h1
                  rw [hx] at r2
                  exact unused_lone (rb k) _ _ _ x w2 r2
                · have h2 : kd k = 2 := by omega
                  rw [hln1.2 h1] at r2
                  have hfl : flO kd k = 1 := by simp [flO, h2]
                  rw [hfl] at r2
                  exact unused_queued (rb k) _ _ w2 r2
              -- taken out
              have TAKE : Hid (∀ w2, Res w2 (rb k) 1 (ln k) (flO kd k) 0 → Chg (fun b => b = rb k) wr w2 → kd k = 0 → ∀ u2 : Nat, cntB (unc kd ct (updB st k 2)) m = u2 →
                  (Calls Yba.prog 33 #[.pointer (some ⟨rb k, 0, none⟩)] w2 fun e w' => e = .returned (.bool true) ∧ w' = w2) ∧
                  (Calls Yba.prog 35 #[.pointer (some ⟨sb, 0, none⟩), .pointer (some ⟨tb, 0, none⟩), .int .u64 (P n p q : Nat)] w2 fun e w3 => e = .returned (.tuple #[]) ∧ ∃ w4,
                    (Calls Yba.prog 34 #[.pointer (some ⟨rb k, 0, none⟩)] w3 fun e w' => e = .returned (.tuple #[]) ∧ w' = w4) ∧
                    PRel w' tb gb sb m n p rb spot kd ct ln (gk - 1) (.int .i64 (cntB (kept st) m : Nat)) (.int .i64 (u2 : Nat)) (.int .i64 (q : Nat)) (.int .u64 (P n p q : Nat)) w4)) := by
                intro w2 r2 c2 h0 u2 hu2
                have hlk : lkO kd k = 0 := by simp [lkO, h3]
                have hfl : flO kd k = 0 := by simp [flO, h0]
                have hl0 := hln1.2 (by omega)
                refine ⟨unused_yes (rb k) 1 0 w2 (by rw [hl0, hfl] at r2; exact r2), ?_⟩
                have E := HE.out
                have t2 := hps.tab.chg c2 (fun e => E.rt k e.symm) (fun e => E.rg k e.symm)
                have s2 := hsh.of_heap (c2.block sb (fun e => E.rs k e.symm))
                refine (take_walk tb gb sb m n p q k rb spot R E HN.out hpn hq w2 t2 tg _ _ 0 (Nat.mod_lt _ (by omega)) (Nat.min_le_right _ _) s2 1 (ln k) (flO kd k) r2 hR hps.inv.emp hps.inv.good hps.inv.uniq ?_).mono ?_
                · intro pl j hpl hj
                  obtain ⟨t, ht, hpt⟩ := P_surj hpn hpl
                  rw [← hpt] at hj
                  have hjm := (hps.inv.mem t ht j hj).1
                  by_cases e : j = k
                  · subst e; exact ⟨_, r2.cells.1⟩
                  · exact ⟨_, ((hps.res j hjm).of_heap (c2.block _ (fun e' => e (E.inj j k hjm hkm e')))).cells.1⟩
                · rintro e w3 ⟨rfl, R', d1, d2, d3, d4, d5⟩
                  refine ⟨rfl, _, unlock_walk (rb k) _ _ _ w3 d4, ?_⟩
                  have c4 : Chg (fun b => b = gb ∨ b = sb ∨ b = rb k) wr (w3.setCell ⟨rb k, 0, none⟩ (.int .i32 0)) := ((c2.mono fun b hb => .inr (.inr hb)).trans d5).setCell (.inr (.inr rfl)) _
                  have c5 : Chg (fun b => b = rb k) w3 (w3.setCell ⟨rb k, 0, none⟩ (.int .i32 0)) := (Chg.refl (fun b => b = rb k) w3).setCell (show rb k = rb k from rfl) _
                  have ps4 := hps.take (R' := R') (tg := tg) E hq hR h0 c4 (by rw [hlk]; exact d4.lock 0) d1 (d2.chg c5 (fun e => E.rt k e.symm) (fun e => E.rg k e.symm)) htg (d3.of_heap (c5.block _ (fun e => E.rs k e.symm)))
                  exact ⟨R', updB st k 2, q, hqn, by rw [kept_same hst0], by rw [hu2], rfl, rfl, ps4, hchg.trans (c4.mono fun b hb => by
                    rcases hb with h | h | h
                    · exact .inl h
                    · exact .inr (.inl h)
                    · exact .inr (.inr ⟨k, hkm, h⟩)), by omega⟩
              clear hsh htg
              generalize wr.setCell ⟨rb k, 0, none⟩ (.int .i32 1) = w1 at TRY res1 ch1 c8 f8
              cases hct : ct k with
              | true =>
                have ht2 : tf0 ct k = 2 := by simp [tf0, hct]
                rw [ht2] at c8 res1
                have z1 : bits .and .u8 2 2 = 2 := by decide +kernel
                have z2 : bits .andNot .u8 2 2 = 0 := by decide +kernel
                have res2 := res1.top 0
                have ch2 : Chg (fun b => b = rb k) wr (w1.setCell ⟨rb k, 8, none⟩ (.int .u8 0)) := ch1.setCell (show rb k = rb k from rfl) _
                by_cases h0 : kd k = 0
                · obtain ⟨U33, C35⟩ := TAKE.out _ res2 ch2 h0 _ (unc_set hkm hst0 (by omega) hct h3)
                  replace U33 := hidB U33
                  replace C35 := hidB C35
                  clear hR hps hchg hgk hr hr0 htf hun1 hun2 hst0 KEEP TAKE res1 res2 ch1 ch2 hln1 hk4 ht2 h0 h3 hct
                  obtain ⟨i, ei⟩ : ∃ i, i = P n p q := ⟨_, rfl⟩
                  obtain ⟨l, el⟩ : ∃ i, i = cntB (kept st) m := ⟨_, rfl⟩
                  obtain ⟨u, eu⟩ : ∃ i, i = cntB (unc kd ct st) m := ⟨_, rfl⟩
                  rw [← ei] at A1 nx hpl C35 ⊢
                  rw [← el] at C35 hl1 ⊢
                  rw [← eu] at C35 hu1 ⊢
                  clear ei el eu
                  go_wp2_with (first | (go_at_call 31; refine SZ.out.mono ?_; rintro e w6 ⟨rfl, rfl⟩) | (go_at_call 18; refine A1.out.mono ?_; rintro e w6 ⟨rfl, rfl⟩) | (go_at_call 32; refine TRY.out.mono ?_; rintro e w6 ⟨rfl, rfl⟩) | (go_at_call 33; refine U33.out.mono ?_; rintro e w6 ⟨rfl, rfl⟩) | (go_at_call 35; refine C35.out.mono ?_; rintro e w6 ⟨rfl, w7, h34, hrl⟩; replace h34 := hidB h34; replace hrl := hidB hrl) | (go_at_call 34; refine h34.out.mono ?_; rintro e w8 ⟨rfl, rfl⟩))
                  go_roundg (gk - 1)
                  case measure => exact GK.out
                  case rel => exact hrl.out
                · obtain ⟨U33, w3, C34, M3, hrl⟩ := KEEP.out _ res2 ch2 h0 _ (unc_set hkm hst0 (by omega) hct h3)
                  replace U33 := hidB U33
                  replace C34 := hidB C34
                  replace M3 := hidB M3
                  replace hrl := hidB hrl
                  clear hR hps hchg hgk hr hr0 htf hun1 hun2 hst0 KEEP TAKE res1 res2 ch1 ch2 hln1 hk4 ht2 h0 h3 hct MA
                  obtain ⟨i, ei⟩ : ∃ i, i = P n p q := ⟨_, rfl⟩
                  obtain ⟨i', ei'⟩ : ∃ i, i = P n p (q + 1) := ⟨_, rfl⟩
                  obtain ⟨l, el⟩ : ∃ i, i = cntB (kept st) m := ⟨_, rfl⟩
                  obtain ⟨u, eu⟩ : ∃ i, i = cntB (unc kd ct st) m := ⟨_, rfl⟩
                  rw [← ei] at A1 nx hpl ⊢
                  rw [← ei'] at nx hrl
                  rw [← el] at hrl hl1 ⊢
                  rw [← eu] at hrl hu1 ⊢
                  clear ei ei' el eu
                  go_wp2_with (first | (go_at_call 31; refine SZ.out.mono ?_; rintro e w6 ⟨rfl, rfl⟩) | (go_at_call 18; refine A1.out.mono ?_; rintro e w6 ⟨rfl, rfl⟩) | (go_at_call 32; refine TRY.out.mono ?_; rintro e w6 ⟨rfl, rfl⟩) | (go_at_call 33; refine U33.out.mono ?_; rintro e w6 ⟨rfl, rfl⟩) | (go_at_call 34; refine C34.out.mono ?_; rintro e w8 ⟨rfl, rfl⟩) | (go_at_call 29; refine M3.out.mono ?_; rintro e w8 ⟨rfl, rfl⟩))
                  go_roundg (gk - 1)
                  case measure => exact GK.out
                  case rel => exact hrl.out
              | false =>
                have ht2 : tf0 ct k = 0 := by simp [tf0, hct]
                rw [ht2] at c8 res1
                have z1 : bits .and .u8 0 2 = 0 := by decide +kernel
                by_cases h0 : kd k = 0
                · obtain ⟨U33, C35⟩ := TAKE.out _ res1 ch1 h0 _ (unc_same hst0 (.inl hct))
                  replace U33 := hidB U33
                  replace C35 := hidB C35
                  clear hR hps hchg hgk hr hr0 htf hun1 hun2 hst0 KEEP TAKE res1 ch1 hln1 hk4 ht2 h0 h3 hct
                  obtain ⟨i, ei⟩ : ∃ i, i = P n p q := ⟨_, rfl⟩
                  obtain ⟨l, el⟩ : ∃ i, i = cntB (kept st) m := ⟨_, rfl⟩
                  obtain ⟨u, eu⟩ : ∃ i, i = cntB (unc kd ct st) m := ⟨_, rfl⟩
                  rw [← ei] at A1 nx hpl C35 ⊢
                  rw [← el] at C35 hl1 ⊢
                  rw [← eu] at C35 hu1 ⊢
                  clear ei el eu
                  go_wp2_with (first | (go_at_call 31; refine SZ.out.mono ?_; rintro e w6 ⟨rfl, rfl⟩) | (go_at_call 18; refine A1.out.mono ?_; rintro e w6 ⟨rfl, rfl⟩) | (go_at_call 32; refine TRY.out.mono ?_; rintro e w6 ⟨rfl, rfl⟩) | (go_at_call 33; refine U33.out.mono ?_; rintro e w6 ⟨rfl, rfl⟩) | (go_at_call 35; refine C35.out.mono ?_; rintro e w6 ⟨rfl, w7, h34, hrl⟩; replace h34 := hidB h34; replace hrl := hidB hrl) | (go_at_call 34; refine h34.out.mono ?_; rintro e w8 ⟨rfl, rfl⟩))
                  go_roundg (gk - 1)
                  case measure => exact GK.out
                  case rel => exact hrl.out
                · obtain ⟨U33, w3, C34, M3, hrl⟩ := KEEP.out _ res1 ch1 h0 _ (unc_same hst0 (.inl hct))
                  replace U33 := hidB U33
                  replace C34 := hidB C34
                  replace M3 := hidB M3
                  replace hrl := hidB hrl
                  clear hR hps hchg hgk hr hr0 htf hun1 hun2 hst0 KEEP TAKE res1 ch1 hln1 hk4 ht2 h0 h3 hct MA
                  obtain ⟨i, ei⟩ : ∃ i, i = P n p q := ⟨_, rfl⟩
                  obtain ⟨i', ei'⟩ : ∃ i, i = P n p (q + 1) := ⟨_, rfl⟩
                  obtain ⟨l, el⟩ : ∃ i, i = cntB (kept st) m := ⟨_, rfl⟩
                  obtain ⟨u, eu⟩ : ∃ i, i = cntB (unc kd ct st) m := ⟨_, rfl⟩
                  rw [← ei] at A1 nx hpl ⊢
                  rw [← ei'] at nx hrl
                  rw [← el] at hrl hl1 ⊢
                  rw [← eu] at hrl hu1 ⊢
                  clear ei ei' el eu
                  go_wp2_with (first | (go_at_call 31; refine SZ.out.mono ?_; rintro e w6 ⟨rfl, rfl⟩) | (go_at_call 18; refine A1.out.mono ?_; rintro e w6 ⟨rfl, rfl⟩) | (go_at_call 32; refine TRY.out.mono ?_; rintro e w6 ⟨rfl, rfl⟩) | (go_at_call 33; refine U33.out.mono ?_; rintro e w6 ⟨rfl, rfl⟩) | (go_at_call 34; refine C34.out.mono ?_; rintro e w8 ⟨rfl, rfl⟩) | (go_at_call 29; refine M3.out.mono ?_; rintro e w8 ⟨rfl, rfl⟩))
                  go_roundg (gk - 1)
                  case measure => exact GK.out
                  case rel => exact hrl.out
        · have hqe : q = n := by omega
          subst hqe
          obtain ⟨tg, hsh, _⟩ := hps.sh
          have c73 := hsh.cells.2.2.2
          have f73 := hsh.frozen 73
          have ID := hidB (i64_add sb 73 0 _ _ wr c73 f73 (add_idle (cntB (unc kd ct st) m) (by omega) wr))
          have FIN : Hid (∃ (f : Nat) (R : Nat → Option Nat) (st' : Nat → Nat) (u : Nat), f < q ∧ u = cntB (unc kd ct st') m ∧ Ending.returned (.int .i64 (cntB (kept st) m : Nat)) = .returned (.int .i64 (cntB (kept st') m : Nat)) ∧
              Chg (fun b => b = gb ∨ b = sb ∨ ∃ k, k < m ∧ b = rb k) w' (wr.setCell ⟨sb, 73, none⟩ (.int .i64 (-(cntB (unc kd ct st) m : Int)))) ∧ ∃ w1, PSt w1 tb gb sb m q f rb spot kd ct ln R st' q ∧
              wr.setCell ⟨sb, 73, none⟩ (.int .i64 (-(cntB (unc kd ct st) m : Int))) = w1.setCell ⟨sb, 73, none⟩ (.int .i64 (-(u : Int)))) :=
            ⟨p, R, st, _, hpn, rfl, rfl, hchg.setCell (.inr (.inl rfl)) _, wr, hps, rfl⟩
          clear hps hchg hgk hsh c73 f73
          obtain ⟨i, ei⟩ : ∃ i, i = P q p q := ⟨_, rfl⟩
          obtain ⟨l, el⟩ : ∃ i, i = cntB (kept st) m := ⟨_, rfl⟩
          obtain ⟨u, eu⟩ : ∃ i, i = cntB (unc kd ct st) m := ⟨_, rfl⟩
          rw [← ei] at nx hpl ⊢
          rw [← el] at FIN hl1 ⊢
          rw [← eu] at FIN ID hu1 ⊢
          clear ei el eu
          have wu : IntKind.i64.wrap (-(u : Int)) = -(u : Int) := by rw [IntKind.wrap_i64]; omega
          go_wp2_with (first | (go_at_call 31; refine SZ.out.mono ?_; rintro e w6 ⟨rfl, rfl⟩) | (go_at_call 36; refine ID.out.mono ?_; rintro e w6 ⟨rfl, rfl⟩))
          go_ret
          exact FIN.out
end Go.Proofs.Ybulkamzi
