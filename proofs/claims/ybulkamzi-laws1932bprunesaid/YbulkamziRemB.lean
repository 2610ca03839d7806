import Derived.Test.YbulkamziTabD
namespace Go.Proofs.Ybulkamzi
open Go.RowKit
set_option linter.unusedVariables false

/-- Only blocks of S have turned; none was made. -/
structure Chg (S : Nat → Prop) (w w' : World) : Prop where
  os : w'.os = w.os
  tape : w'.tape = w.tape
  output : w'.output = w.output
  size : w'.heap.size = w.heap.size
  block : ∀ k, ¬ S k → w'.heap[k]? = w.heap[k]?
  shape : ∀ k, w'.shape? k = w.shape? k
theorem Chg.refl (S : Nat → Prop) (w : World) : Chg S w w := ⟨rfl, rfl, rfl, rfl, fun _ _ => rfl, fun _ => rfl⟩
theorem Chg.trans {S : Nat → Prop} {a b c : World} (h : Chg S a b) (k : Chg S b c) : Chg S a c :=
  ⟨k.os.trans h.os, k.tape.trans h.tape, k.output.trans h.output, k.size.trans h.size, fun i hi => (k.block i hi).trans (h.block i hi), fun i => (k.shape i).trans (h.shape i)⟩
theorem Chg.mono {S S' : Nat → Prop} {w w' : World} (h : Chg S w w') (hs : ∀ k, S k → S' k) : Chg S' w w' := ⟨h.os, h.tape, h.output, h.size, fun k hk => h.block k (fun e => hk (hs k e)), h.shape⟩
theorem Chg.setCell {S : Nat → Prop} {a w : World} (h : Chg S a w) {p : Addr} (hp : S p.block) (v : Value) : Chg S a (w.setCell p v) :=
  h.trans ⟨rfl, rfl, rfl, World.size_setCell _ _ _, fun k hk => heap_setCell_other w p k v (fun e => hk (e ▸ hp)), fun k => shape_setCell' w p v k⟩
theorem Chg.drew {S : Nat → Prop} {a w : World} (h : Chg S a w) : Chg S a w.drew := ⟨h.os, h.tape, h.output, h.size, h.block, h.shape⟩
theorem Chg.putAt {S : Nat → Prop} {a w : World} (h : Chg S a w) {gb : Nat} (hp : S gb) (p : Nat) (x : Option Addr) (s : Int) : Chg S a (putAt w gb p x s) :=
  (h.setCell (p := ⟨gb, _, none⟩) hp _).setCell (p := ⟨gb, _, none⟩) hp _
theorem Chg.below {B : Nat} {S : Nat → Prop} {w w' : World} (h : Chg S w w') (hs : ∀ k, S k → B ≤ k) : Below B w w' :=
  ⟨h.os, h.tape, h.output, Nat.le_of_eq h.size.symm, fun k hk => h.block k (fun e => by have := hs k e; omega)⟩

/-- The world in which place p is emptied. -/
def emptyAt (w : World) (gb p : Nat) : World := (w.setCell ⟨gb, p / 2 * 4 + p % 2, none⟩ (.int .u32 0)).setCell ⟨gb, p / 2 * 4 + 2 + p % 2, none⟩ (.pointer none)
theorem Chg.emptyAt {S : Nat → Prop} {a w : World} (h : Chg S a w) {gb : Nat} (hp : S gb) (p : Nat) : Chg S a (emptyAt w gb p) :=
  (h.setCell (p := ⟨gb, _, none⟩) hp _).setCell (p := ⟨gb, _, none⟩) hp _
theorem Tab.empty {w : World} {tb gb n : Nat} {rb spot : Nat → Nat} {R : Nat → Option Nat} (h : Tab w tb gb n rb spot R) {p : Nat} (hp : p < n) (hev : n % 2 = 0) (htg : tb ≠ gb) :
    Tab (emptyAt w gb p) tb gb n rb spot (updB R p none) := by
  obtain ⟨h1, ⟨c, h2, h3, h4⟩, h5⟩ := h
  have hc : Chg (fun k => k = gb) w (emptyAt w gb p) := (Chg.refl (fun k => k = gb) w).emptyAt (show gb = gb from rfl) p
  refine ⟨?_, ⟨_, heap_setCell_same _ _ _ _ _ _ (heap_setCell_same _ _ _ _ _ _ h2), by simp [h3], fun q hq => ?_⟩, fun q k hq hk => ?_⟩
  · rw [World.cell?_of_block (w := w) (a := ⟨tb, 0, none⟩) (hc.block tb htg)]; exact h1
  · obtain ⟨k1, k2⟩ := h4 q hq
    simp only [Array.getElem?_setIfInBounds, Array.size_setIfInBounds]
    by_cases e : q = p
    · subst e
      rw [updB_same]
      rw [if_neg (by omega), if_pos rfl, if_pos (by omega), if_pos rfl, if_pos (by omega)]
      exact ⟨rfl, rfl⟩
    · rw [updB_other _ _ _ _ e]
      rw [if_neg (by omega), if_neg (by omega), if_neg (by omega), if_neg (by omega)]
      exact ⟨k1, k2⟩
  · rw [hc.shape]
    by_cases e : q = p
    · subst e; rw [updB_same] at hk; cases hk
    · rw [updB_other _ _ _ _ e] at hk; exact h5 q k hq hk

/-- (*nameTable).empty. -/
theorem empty_walk (tb gb n p : Nat) (rb spot : Nat → Nat) (R : Nat → Option Nat) (hn : Pow n) (hp : p < n) (w : World) (h : Tab w tb gb n rb spot R) :
    Calls Yba.prog 74 #[.pointer (some ⟨tb, 0, none⟩), .int .u64 p] w fun e w' => e = .returned (.tuple #[]) ∧ w' = emptyAt w gb p := by
  have hh := h.hdr
  have hle := hn.le; have hpos := hn.pos; have hev := hn.even
  obtain ⟨g, hg⟩ : ∃ g, g = n / 2 := ⟨_, rfl⟩
  obtain ⟨a, ha⟩ : ∃ a, a = p / 2 := ⟨_, rfl⟩
  obtain ⟨r, hr⟩ : ∃ r, r = p % 2 := ⟨_, rfl⟩
  have e1 : (p : Int) / 2 = (a : Int) := by omega
  have e2 : (p : Int) % 2 = (r : Int) := by omega
  have e1' : (p : Int).tdiv 2 = (a : Int) := by rw [Int.tdiv_eq_ediv_of_nonneg (by omega)]; omega
  have e2' : (p : Int).tmod 2 = (r : Int) := by rw [Int.tmod_eq_emod_of_nonneg (by omega)]; omega
  have hal : a < g := by omega
  have hr2 : r < 2 := by omega
  obtain ⟨c1, c2⟩ := h.resCell hp
  obtain ⟨c3, c4⟩ := h.spotCell hp
  unfold emptyAt
  rw [← ha, ← hr] at c1 c2 c3 c4 ⊢
  rw [← hg] at hh
  have hg32 : g ≤ 32 := by omega
  have L1 := hidB (u32_store gb (a * 4 + r) _ 0 w c3 c4)
  have c1' : (w.setCell ⟨gb, a * 4 + r, none⟩ (.int .u32 0)).cell? ⟨gb, a * 4 + 2 + r, none⟩ = some (.pointer (ptrV rb (R p))) := by
    rw [World.cell?_setCell_other _ _ _ _ (by simp only [ne_eq, Addr.mk.injEq]; omega)]; exact c1
  have c2' : (w.setCell ⟨gb, a * 4 + r, none⟩ (.int .u32 0)).frozen? ⟨gb, a * 4 + 2 + r, none⟩ = false := by
    rw [World.frozen?_setCell]; exact c2
  have L2 := hidB (res_store gb (a * 4 + 2 + r) none _ _ c1' c2' (fun j hj => by cases hj))
  clear c1 c2 c3 c4 c1' c2' h hg ha hr hle hpos hev
  simp only [Option.map_none] at L2
  go_enter Yba.func74, Yba.ntmps74
  go_wp2_with (first | (go_at_call 10; refine L1.out.mono ?_; rintro e w' ⟨rfl, rfl⟩) | (go_at_call 52; refine L2.out.mono ?_; rintro e w' ⟨rfl, rfl⟩))
  go_end0
  exact ⟨rfl, rfl⟩

theorem pow_dvd {n : Nat} (h : Pow n) : ∃ q : Int, (18446744073709551616 : Int) = n * q := by
  obtain ⟨e, he, rfl⟩ := h.pow
  refine ⟨((2 ^ (64 - e) : Nat) : Int), ?_⟩
  rw [← Int.natCast_mul, ← Nat.pow_add, show e + (64 - e) = 64 by omega]
  rfl
/-- A difference of two places, reckoned in 64 bits and cut to the table's size. -/
theorem Pow.sub {n : Nat} (h : Pow n) (d : Int) : bits .and .u64 (d % 18446744073709551616) ((n : Int) - 1) = d % (n : Int) := by
  have h0 : 0 ≤ d % 18446744073709551616 := Int.emod_nonneg _ (by omega)
  have h1 : d % 18446744073709551616 < 18446744073709551616 := Int.emod_lt_of_pos _ (by omega)
  have hp := h.pos
  obtain ⟨s, hs⟩ : ∃ s : Nat, (s : Int) = d % 18446744073709551616 := ⟨(d % 18446744073709551616).toNat, by omega⟩
  rw [← hs, h.and s (by omega), Int.natCast_emod, hs]
  obtain ⟨q, hq⟩ := pow_dvd h
  rw [hq]
  exact Int.emod_emod_of_dvd d ⟨q, rfl⟩
theorem Pow.subW {n : Nat} (h : Pow n) (d : Int) : bits .and .u64 (IntKind.u64.wrap d) ((n : Int) - 1) = d % (n : Int) := by
  rw [show IntKind.u64.wrap d = d % 18446744073709551616 by simp [IntKind.wrap, IntKind.bits, IntKind.signed]]
  exact h.sub d
theorem P_back {n f y : Nat} (hf : f < n) (h1 : 1 ≤ y) (hy : y ≤ n) : ((f : Int) - (P n f y : Int)) % (n : Int) = ((n - y : Nat) : Int) := by
  rw [P_eq hf hy]
  split
  · rw [← Int.add_emod_right, Int.emod_eq_of_lt (by omega) (by omega)]; omega
  · rw [Int.emod_eq_of_lt (by omega) (by omega)]; omega

set_option maxHeartbeats 4000000 in
set_option maxRecDepth 100000 in
/-- (*nameTable).remove. -/
theorem remove_walk (tb gb n f x0 k0 : Nat) (rb spot : Nat → Nat) (R0 : Nat → Option Nat) (hn : Pow n) (hf : f < n) (hx0 : x0 < n) (w : World) (h : Tab w tb gb n rb spot R0) (htg : tb ≠ gb) (hrg : ∀ k, rb k ≠ gb) (hsp : ∀ k, spot k < 4294967296)
    (hk0 : R0 (P n f x0) = some k0) (he : R0 (P n f 0) = none) (hg : Good n spot f R0) (hu : ∀ t s, t < n → s < n → ∀ k, R0 (P n f t) = some k → R0 (P n f s) = some k → t = s)
    (hres : ∀ p k, p < n → R0 p = some k → ∃ v, w.cell? ⟨rb k, 0, none⟩ = some v) :
    Calls Yba.prog 58 #[.pointer (some ⟨tb, 0, none⟩), .int .u64 (P n f x0 : Nat)] w fun e w' => e = .returned (.tuple #[]) ∧ ∃ R, RemDone n spot f R0 x0 k0 R ∧ Tab w' tb gb n rb spot R ∧ Chg (fun k => k = gb) w w' := by
  have HR := hidB (rem_start hf hx0 hk0 he hg hu)
  have HT := hidB h
  have HN := hidB hn
  have MA := hidB (mask_n tb gb n rb spot R0 hn w h)
  have nx := hn.next f x0 hf
  have hle := hn.le
  have hpl : P n f x0 < n := P_lt hf
  have HRES := hidB hres
  have HRG := hidB hrg
  have HSP := hidB hsp
  have ST0 : Hid (∃ (x y : Nat) (R : Nat → Option Nat), (Value.int .u64 (P n f x0 : Nat)) = .int .u64 (P n f x : Nat) ∧ (Value.int .u64 (P n f (x0 + 1) : Nat)) = .int .u64 (P n f y : Nat) ∧ Rem n spot f R0 x0 k0 R x y ∧ Tab w tb gb n rb spot R ∧ Chg (fun k => k = gb) w w) :=
    ⟨x0, x0 + 1, R0, rfl, rfl, HR.out, h, Chg.refl _ _⟩
  obtain ⟨i0, ei0⟩ : ∃ i, i = P n f x0 := ⟨_, rfl⟩
  obtain ⟨j0, ej0⟩ : ∃ i, i = P n f (x0 + 1) := ⟨_, rfl⟩
  rw [← ei0, ← ej0] at ST0 nx
  rw [← ei0] at hpl ⊢
  have HX := hidB hx0
  clear h hn he hg hu hres hk0 ei0 ej0 HR hrg hsp hx0
  go_enter Yba.func58, Yba.ntmps58
  go_wp2_with (go_at_call 29; refine MA.out.mono ?_; rintro e w' ⟨rfl, rfl⟩)
  clear MA nx
  go_loopw [1, 4] (fun iv jv wr => ∃ (x y : Nat) (R : Nat → Option Nat), iv = .int .u64 (P n f x : Nat) ∧ jv = .int .u64 (P n f y : Nat) ∧ Rem n spot f R0 x0 k0 R x y ∧ Tab wr tb gb n rb spot R ∧ Chg (fun k => k = gb) w' wr) (fun _ jv _ => (((f : Int) - intOf jv) % (n : Int)).toNat)
  case atStart => exact ST0.out
  case round =>
    obtain ⟨x, y, R, rfl, rfl, hrem, htab, hchg⟩ := hrel
    clear ST0
    have hpx : P n f x < n := P_lt hf
    have hpy : P n f y < n := P_lt hf
    have hxy := hrem.hx
    have MA := hidB (mask_n tb gb n rb spot R HN.out wr htab)
    cases hR : R (P n f y) with
    | none =>
      have A1 := hidB (at_none tb gb n _ rb spot R HN.out hpy wr htab hR)
      have E1 := hidB (empty_walk tb gb n _ rb spot R HN.out hpx wr htab)
      have RES : Hid (∃ R', RemDone n spot f R0 x0 k0 R' ∧ Tab (emptyAt wr gb (P n f x)) tb gb n rb spot R' ∧ Chg (fun k => k = gb) w' (emptyAt wr gb (P n f x))) :=
        ⟨_, rem_end hf hrem hR, htab.empty hpx HN.out.even htg, hchg.emptyAt (show gb = gb from rfl) _⟩
      clear hrem htab hchg hR hxy
      obtain ⟨i, ei⟩ : ∃ i, i = P n f x := ⟨_, rfl⟩
      obtain ⟨j, ej⟩ : ∃ i, i = P n f y := ⟨_, rfl⟩
      rw [← ei] at E1 RES hpx ⊢
      rw [← ej] at A1 hpy ⊢
      clear ei ej
      go_wp2_with (first | (go_at_call 18; refine A1.out.mono ?_; rintro e w' ⟨rfl, rfl⟩) | (go_at_call 74; refine E1.out.mono ?_; rintro e w' ⟨rfl, rfl⟩))
      go_end0
      exact ⟨rfl, RES.out⟩
    | some k =>
      have hyn : y < n := by
        rcases Nat.lt_or_ge y n with h | h
        · exact h
        · exfalso
          have : y = n := by omega
          subst this
          have h2 := hrem.emp
          rw [P_zero hf] at h2
          rw [P_n hf, h2] at hR
          cases hR
      obtain ⟨a, ha1, ha2, ha3, ha4⟩ := hrem.reach y hyn (by omega) k hR
      have A1 := hidB (at_some tb gb n _ k rb spot R HN.out hpy wr htab hR)
      have S1 := hidB (spotAt_some tb gb n _ k rb spot R HN.out hpy wr htab hR)
      have S2 := hidB (start_n tb gb n (spot k) rb spot R HN.out (HSP.out k) wr htab)
      rw [← ha2] at S2
      have hpa : P n f a < n := P_lt hf
      have b1 := HN.out.subW ((P n f y : Int) - (P n f a : Int))
      rw [P_dist hf ha1 hyn] at b1
      have b2 := HN.out.subW ((P n f y : Int) - (P n f x : Int))
      rw [P_dist hf (by omega) hyn] at b2
      have nx := HN.out.next f y hf
      have hres : ∃ v, wr.cell? ⟨rb k, 0, none⟩ = some v := by
        obtain ⟨_, t', ht', hk', _⟩ := hrem.from0 y hyn (by omega) k hR
        obtain ⟨v, hv⟩ := HRES.out _ k (P_lt hf) hk'
        exact ⟨v, (World.cell?_of_block (w := w') (a := ⟨rb k, 0, none⟩) (hchg.block _ (HRG.out k))).trans hv⟩
      obtain ⟨v, hv⟩ := hres
      have m1 := P_back hf (show 1 ≤ y by omega) (by omega)
      have m2 := P_back hf (show 1 ≤ y + 1 by omega) (by omega)
      have MM : Hid ((((f : Int) - (P n f (y + 1) : Nat)) % (n : Int)).toNat < (((f : Int) - (P n f y : Nat)) % (n : Int)).toNat) := by
        show _ < _
        rw [m1, m2]; omega
      by_cases hax : a ≤ x
      · have W1 := hidB (set_walk tb gb n _ k rb spot R HN.out hpx wr htab (spot k) v hv (HRG.out k))
        have RL : Hid (∃ (x' y' : Nat) (R' : Nat → Option Nat), (Value.int .u64 (P n f y : Nat)) = .int .u64 (P n f x' : Nat) ∧ (Value.int .u64 (P n f (y + 1) : Nat)) = .int .u64 (P n f y' : Nat) ∧ Rem n spot f R0 x0 k0 R' x' y' ∧
            Tab (putAt wr gb (P n f x) (some ⟨rb k, 0, none⟩) (spot k : Nat)) tb gb n rb spot R' ∧ Chg (fun k => k = gb) w' (putAt wr gb (P n f x) (some ⟨rb k, 0, none⟩) (spot k : Nat))) :=
          ⟨y, y + 1, _, rfl, rfl, rem_move hf hrem hyn hR (by omega) ha2 hax, htab.put hpx (some k) HN.out.even htg (fun j hj => by cases hj; exact htab.shp _ k hpy hR), hchg.putAt (show gb = gb from rfl) _ _ _⟩
        have MA2 : Hid (Calls Yba.prog 29 #[.pointer (some ⟨tb, 0, none⟩)] (putAt wr gb (P n f x) (some ⟨rb k, 0, none⟩) (spot k : Nat)) fun e w1 => e = .returned (.int .u64 ((n : Int) - 1)) ∧ w1 = putAt wr gb (P n f x) (some ⟨rb k, 0, none⟩) (spot k : Nat)) :=
          mask_n tb gb n rb spot _ HN.out _ (htab.put hpx (some k) HN.out.even htg (fun j hj => by cases hj; exact htab.shp _ k hpy hR))
        have hge : ((y - x : Nat) : Int) ≤ ((y - a : Nat) : Int) := by omega
        clear hrem htab hchg hR hxy ha1 ha2 ha3 ha4 hv m1 m2 hax hyn
        obtain ⟨i, ei⟩ : ∃ i, i = P n f x := ⟨_, rfl⟩
        obtain ⟨j, ej⟩ : ∃ i, i = P n f y := ⟨_, rfl⟩
        obtain ⟨j', ej'⟩ : ∃ i, i = P n f (y + 1) := ⟨_, rfl⟩
        obtain ⟨st, est⟩ : ∃ i, i = P n f a := ⟨_, rfl⟩
        obtain ⟨d1, ed1⟩ : ∃ d : Int, d = ((y - a : Nat) : Int) := ⟨_, rfl⟩
        obtain ⟨d2, ed2⟩ : ∃ d : Int, d = ((y - x : Nat) : Int) := ⟨_, rfl⟩
        obtain ⟨sp, esp⟩ : ∃ d : Int, d = ((spot k : Nat) : Int) := ⟨_, rfl⟩
        rw [← ei] at W1 RL MA2 hpx b2 ⊢
        rw [← ej] at A1 S1 hpy b1 b2 nx MM RL ⊢
        rw [← ej'] at nx MM RL
        rw [← est] at S2 b1 hpa
        rw [← ed1] at b1 hge
        rw [← ed2] at b2 hge
        rw [← esp] at S1 S2 W1 RL MA2
        clear ei ej ej' est ed1 ed2 esp
        generalize putAt wr gb i (some ⟨rb k, 0, none⟩) sp = w5 at W1 RL MA2
        go_wp2_with (first | (go_at_call 18; refine A1.out.mono ?_; rintro e w6 ⟨rfl, rfl⟩) | (go_at_call 19; refine S1.out.mono ?_; rintro e w6 ⟨rfl, rfl⟩) | (go_at_call 28; refine S2.out.mono ?_; rintro e w6 ⟨rfl, rfl⟩) |
          (go_at_call 29; refine MA.out.mono ?_; rintro e w6 ⟨rfl, rfl⟩) | (go_at_call 29; refine MA2.out.mono ?_; rintro e w6 ⟨rfl, rfl⟩) | (go_at_call 30; refine W1.out.mono ?_; rintro e w6 ⟨rfl, rfl⟩))
        go_roundw
        case rel => exact RL.out
        case measure => exact MM.out
      · have hlt : ((y - a : Nat) : Int) < ((y - x : Nat) : Int) := by omega
        have RL : Hid (∃ (x' y' : Nat) (R' : Nat → Option Nat), (Value.int .u64 (P n f x : Nat)) = .int .u64 (P n f x' : Nat) ∧ (Value.int .u64 (P n f (y + 1) : Nat)) = .int .u64 (P n f y' : Nat) ∧ Rem n spot f R0 x0 k0 R' x' y' ∧
            Tab wr tb gb n rb spot R' ∧ Chg (fun k => k = gb) w' wr) :=
          ⟨x, y + 1, _, rfl, rfl, rem_keep hf hrem hyn hR (by omega) ha2 hax, htab, hchg⟩
        clear hrem htab hchg hR hxy ha1 ha2 ha3 ha4 hv m1 m2 hax hyn
        obtain ⟨i, ei⟩ : ∃ i, i = P n f x := ⟨_, rfl⟩
        obtain ⟨j, ej⟩ : ∃ i, i = P n f y := ⟨_, rfl⟩
        obtain ⟨j', ej'⟩ : ∃ i, i = P n f (y + 1) := ⟨_, rfl⟩
        obtain ⟨st, est⟩ : ∃ i, i = P n f a := ⟨_, rfl⟩
        obtain ⟨d1, ed1⟩ : ∃ d : Int, d = ((y - a : Nat) : Int) := ⟨_, rfl⟩
        obtain ⟨d2, ed2⟩ : ∃ d : Int, d = ((y - x : Nat) : Int) := ⟨_, rfl⟩
        obtain ⟨sp, esp⟩ : ∃ d : Int, d = ((spot k : Nat) : Int) := ⟨_, rfl⟩
        rw [← ei] at RL hpx b2 ⊢
        rw [← ej] at A1 S1 hpy b1 b2 nx MM ⊢
        rw [← ej'] at nx MM RL
        rw [← est] at S2 b1 hpa
        rw [← ed1] at b1 hlt
        rw [← ed2] at b2 hlt
        rw [← esp] at S1 S2
        clear ei ej ej' est ed1 ed2 esp
        go_wp2_with (first | (go_at_call 18; refine A1.out.mono ?_; rintro e w6 ⟨rfl, rfl⟩) | (go_at_call 19; refine S1.out.mono ?_; rintro e w6 ⟨rfl, rfl⟩) | (go_at_call 28; refine S2.out.mono ?_; rintro e w6 ⟨rfl, rfl⟩) |
          (go_at_call 29; refine MA.out.mono ?_; rintro e w6 ⟨rfl, rfl⟩))
        go_roundw
        case rel => exact RL.out
        case measure => exact MM.out
end Go.Proofs.Ybulkamzi
