import Derived.Test.YbulkamziGhostB
import Derived.Deep.LoopGhost
namespace Go.Proofs.Ybulkamzi
open Go.RowKit
set_option linter.unusedVariables false
set_option linter.unusedSimpArgs false

/-- The blocks lie apart. -/
structure Env (tb gb sb m : Nat) (rb spot : Nat → Nat) : Prop where
  tg : tb ≠ gb
  sg : sb ≠ gb
  st : sb ≠ tb
  rg : ∀ k, rb k ≠ gb
  rt : ∀ k, rb k ≠ tb
  rs : ∀ k, rb k ≠ sb
  inj : ∀ i j, i < m → j < m → rb i = rb j → i = j
  sp : ∀ k, spot k < 4294967296

theorem Tab.chg {w w' : World} {tb gb n : Nat} {rb spot : Nat → Nat} {R : Nat → Option Nat} {S : Nat → Prop} (h : Tab w tb gb n rb spot R) (c : Chg S w w') (h1 : ¬ S tb) (h2 : ¬ S gb) : Tab w' tb gb n rb spot R :=
  h.of_heap (c.block _ h1) (c.block _ h2) (fun p k _ _ => c.shape _)

set_option maxHeartbeats 1000000 in
set_option maxRecDepth 100000 in
/-- (*shard).takeOutAt. -/
theorem take_walk (tb gb sb m n f x0 k0 : Nat) (rb spot : Nat → Nat) (R0 : Nat → Option Nat) (E : Env tb gb sb m rb spot) (hn : Pow n) (hf : f < n) (hx0 : x0 < n) (w : World) (h : Tab w tb gb n rb spot R0)
    (tg : Nat → Nat) (gn gh : Nat) (idle : Int) (hgn : gn < 31) (hgh : gh ≤ 31) (hs : Sh w sb tg gn gh idle) (lk : Int) (ln : Option Addr) (fl : Int) (hr : Res w (rb k0) lk ln fl 0)
    (hk0 : R0 (P n f x0) = some k0) (he : R0 (P n f 0) = none) (hg : Good n spot f R0) (hu : ∀ t s, t < n → s < n → ∀ k, R0 (P n f t) = some k → R0 (P n f s) = some k → t = s)
    (hres : ∀ p k, p < n → R0 p = some k → ∃ v, w.cell? ⟨rb k, 0, none⟩ = some v) :
    Calls Yba.prog 35 #[.pointer (some ⟨sb, 0, none⟩), .pointer (some ⟨tb, 0, none⟩), .int .u64 (P n f x0 : Nat)] w fun e w' => e = .returned (.tuple #[]) ∧ ∃ R, RemDone n spot f R0 x0 k0 R ∧ Tab w' tb gb n rb spot R ∧
      Sh w' sb (updB tg gn (tagN (spot k0))) ((gn + 1) % 31) (min (gh + 1) 31) idle ∧ Res w' (rb k0) lk ln fl 1 ∧ Chg (fun b => b = gb ∨ b = sb ∨ b = rb k0) w w' := by
  have hpl : P n f x0 < n := P_lt hf
  -- the worlds on the way
  have A1 := hidB (at_some tb gb n _ k0 rb spot R0 hn hpl w h hk0)
  have c8 := hr.cells.2.2.2.2
  have z8 := hr.frozen 8
  have hr1 := hr.top 1
  have ch1 : Chg (fun b => b = gb ∨ b = sb ∨ b = rb k0) w (w.setCell ⟨rb k0, 8, none⟩ (.int .u8 1)) := (Chg.refl _ w).setCell (.inr (.inr rfl)) _
  have ch1' : Chg (fun b => b = rb k0) w (w.setCell ⟨rb k0, 8, none⟩ (.int .u8 1)) := (Chg.refl (fun b => b = rb k0) w).setCell (show rb k0 = rb k0 from rfl) _
  have t1 := h.chg ch1' (fun e => E.rt k0 e.symm) (fun e => E.rg k0 e.symm)
  have s1 := hs.of_heap (ch1'.block sb (fun e => E.rs k0 e.symm))
  have hres1 : ∀ p k, p < n → R0 p = some k → ∃ v, (w.setCell ⟨rb k0, 8, none⟩ (.int .u8 1)).cell? ⟨rb k, 0, none⟩ = some v := fun p k hp hk => by
    obtain ⟨v, hv⟩ := hres p k hp hk
    rw [World.cell?_setCell_other _ _ _ _ (by simp)]
    exact ⟨v, hv⟩
  generalize hw1 : w.setCell ⟨rb k0, 8, none⟩ (.int .u8 1) = w1 at *
  have S1 := hidB (spotAt_some tb gb n _ k0 rb spot R0 hn hpl w1.drew (t1.chg (Chg.refl (fun _ => False) w1).drew (by simp) (by simp)) hk0)
  have T1 := hidB (tagOf_walk (spot k0) (E.sp k0) w1.drew)
  have G1 := hidB (ghostPut_walk sb tg gn gh idle (tagN (spot k0)) hgn hgh w1.drew (s1.of_heap rfl))
  have s2 := Sh.put (w := w1.drew) (s1.of_heap rfl) hgn (tagN (spot k0)) ((gn + 1) % 31) (min (gh + 1) 31)
  have ch2 : Chg (fun b => b = sb) w1 (ghostPut w1.drew sb gn (tagN (spot k0) : Nat) ((gn + 1) % 31 : Nat) (min (gh + 1) 31 : Nat)).drew :=
    ((((Chg.refl (fun b => b = sb) w1).drew.setCell (p := ⟨sb, _, none⟩) rfl _).setCell (p := ⟨sb, _, none⟩) rfl _).setCell (p := ⟨sb, _, none⟩) rfl _).drew
  generalize hw2 : ghostPut w1.drew sb gn (tagN (spot k0) : Nat) ((gn + 1) % 31 : Nat) (min (gh + 1) 31 : Nat) = w2 at *
  have t2 := t1.chg ch2 (fun e => E.st e.symm) (fun e => E.sg e.symm)
  have hres2 : ∀ p k, p < n → R0 p = some k → ∃ v, w2.drew.cell? ⟨rb k, 0, none⟩ = some v := fun p k hp hk => by
    obtain ⟨v, hv⟩ := hres1 p k hp hk
    exact ⟨v, (World.cell?_of_block (w := w1) (a := ⟨rb k, 0, none⟩) (ch2.block _ (E.rs k))).trans hv⟩
  have RM := hidB (remove_walk tb gb n f x0 k0 rb spot R0 hn hf hx0 w2.drew t2 E.tg E.rg E.sp hk0 he hg hu hres2)
  have FIN : Hid (∀ w3, (∃ R, RemDone n spot f R0 x0 k0 R ∧ Tab w3 tb gb n rb spot R ∧ Chg (fun k => k = gb) w2.drew w3) → ∃ R, RemDone n spot f R0 x0 k0 R ∧ Tab w3 tb gb n rb spot R ∧
      Sh w3 sb (updB tg gn (tagN (spot k0))) ((gn + 1) % 31) (min (gh + 1) 31) idle ∧ Res w3 (rb k0) lk ln fl 1 ∧ Chg (fun b => b = gb ∨ b = sb ∨ b = rb k0) w w3) := by
    rintro w3 ⟨R, d1, d2, d3⟩
    refine ⟨R, d1, d2, s2.of_heap (d3.block sb E.sg), (hr1.of_heap (ch2.block _ (E.rs k0))).of_heap (d3.block _ (E.rg k0)), (ch1.trans (ch2.mono fun b hb => .inr (.inl hb))).trans (d3.mono fun b hb => .inl hb)⟩
  have ob : bits .or .u8 0 1 = 1 := by decide +kernel
  obtain ⟨p, ep⟩ : ∃ p, p = P n f x0 := ⟨_, rfl⟩
  rw [← ep] at A1 S1 RM hpl ⊢
  clear ep hres hres1 hres2 t1 t2 s1 s2 ch1 ch1' ch2 hr1 hr hs h hk0 he hg hu hx0 E hw2
  go_enter Yba.func35, Yba.ntmps35
  go_upto_region 1 with (go_at_call 18; refine A1.out.mono ?_; rintro e w' ⟨rfl, rfl⟩)
  try rw [hw1]
  go_region_with (first | (go_at_call 19; refine S1.out.mono ?_; rintro e w' ⟨rfl, rfl⟩) | (go_at_call 17; refine T1.out.mono ?_; rintro e w' ⟨rfl, rfl⟩) | (go_at_call 57; refine G1.out.mono ?_; rintro e w' ⟨rfl, rfl⟩))
  all_goals
    go_wp2_with (go_at_call 58; refine RM.out.mono ?_; rintro e w3 ⟨rfl, h3⟩)
    go_end0
    exact ⟨rfl, FIN.out _ h3⟩
end Go.Proofs.Ybulkamzi
