import Derived.Test.YbulkanakProg
import Derived.WalkKit
import Derived.WalkSpells
import Derived.WalkLawsBesides
import Derived.Laws.BitsAllLaws
import Derived.BigQuiet
import Derived.Deep.QuietTactic
import Derived.Below
import Derived.Deep.CutBlock
import Derived.Deep.DeepCutAuto
namespace Go.Proofs.Ybulkanak
open Go.RowKit
set_option linter.unusedVariables false

theorem hid {p : Prop} (h : p) : Hid p := h

theorem and_mask (s : Nat) (h : s < 1073741824) : bits .and .u64 (s : Int) 1073741823 = (s : Int) := by
  have := u64_and_nat s 1073741823 (by omega) (by omega)
  rw [show ((1073741823 : Nat) : Int) = 1073741823 from rfl] at this
  rw [this, show (1073741823 : Nat) = 2 ^ 30 - 1 from rfl, Nat.and_two_pow_sub_one_eq_mod]
  omega
theorem nat_and_hi (s : Nat) (h : s < 9223372036854775808) : s &&& 9223372036854775808 = 0 := by
  rw [show (9223372036854775808 : Nat) = 2 ^ 63 from rfl] at *
  apply Nat.eq_of_testBit_eq
  intro i
  rw [Nat.testBit_and, Nat.testBit_two_pow, Nat.zero_testBit]
  by_cases hi : 63 = i
  · subst hi; simp [Nat.testBit_lt_two_pow h]
  · simp [hi]
theorem and_hi (s : Nat) (h : s < 9223372036854775808) : bits .and .u64 (s : Int) 9223372036854775808 = 0 := by
  have := u64_and_nat s 9223372036854775808 (by omega) (by omega)
  rw [show ((9223372036854775808 : Nat) : Int) = 9223372036854775808 from rfl] at this
  rw [this, nat_and_hi s h]; rfl
theorem and_small (s t : Nat) (h : s < 1073741824) (h' : t < 1073741824) : ∃ u : Nat, u < 1073741824 ∧ bits .and .u64 (s : Int) (t : Int) = (u : Int) :=
  ⟨s &&& t, Nat.lt_of_le_of_lt Nat.and_le_left h, u64_and_nat s t (by omega) (by omega)⟩
theorem or_zero (s : Nat) (h : s < 1073741824) : bits .or .u64 0 (s : Int) = (s : Int) := by
  have := u64_or_nat 0 s (by omega) (by omega)
  rw [Nat.zero_or] at this
  exact this
theorem andNot_zero : bits .andNot .u64 0 1073741823 = 0 := by decide +kernel

/-- (*Time).nsec. -/
theorem nsec (b s : Nat) (hs : s < 1073741824) (w : World) (hc : w.cell? ⟨b, 0, none⟩ = some (.int .u64 s)) :
    Calls Yba.prog 9 #[.pointer (some ⟨b, 0, none⟩)] w fun e w' => e = .returned (.int .i32 s) ∧ w' = w := by
  have h1 := and_mask s hs
  go_enter Yba.func9, Yba.ntmps9
  go_wp2
  go_ret
  exact ⟨rfl, rfl⟩
theorem nsec0 (b : Nat) (w : World) (hc : w.cell? ⟨b, 0, none⟩ = some (.int .u64 0)) :
    Calls Yba.prog 9 #[.pointer (some ⟨b, 0, none⟩)] w fun e w' => e = .returned (.int .i32 0) ∧ w' = w := nsec b 0 (by omega) w hc
/-- (*Time).sec, of a time without the monotonic reading. -/
theorem sec (b s : Nat) (x : Int) (hs : s < 1073741824) (w : World) (hc : w.cell? ⟨b, 0, none⟩ = some (.int .u64 s)) (hc' : w.cell? ⟨b, 1, none⟩ = some (.int .i64 x)) :
    Calls Yba.prog 15 #[.pointer (some ⟨b, 0, none⟩)] w fun e w' => e = .returned (.int .i64 x) ∧ w' = w := by
  have h1 := and_hi s (by omega)
  go_enter Yba.func15, Yba.ntmps15
  go_wp2
  go_ret
  exact ⟨rfl, rfl⟩
/-- (*Time).addSec, of a time without the monotonic reading, at second 0. -/
theorem addSec (b s q : Nat) (hs : s < 1073741824) (hq : q < 9007199254740992) (w : World) (hc : w.cell? ⟨b, 0, none⟩ = some (.int .u64 s)) (hc' : w.cell? ⟨b, 1, none⟩ = some (.int .i64 0)) (hz : w.frozen? ⟨b, 1, none⟩ = false) :
    Calls Yba.prog 10 #[.pointer (some ⟨b, 0, none⟩), .int .i64 q] w fun e w' => e = .returned (.tuple #[]) ∧ w' = w.setCell ⟨b, 1, none⟩ (.int .i64 q) := by
  have h1 := and_hi s (by omega)
  go_enter Yba.func10, Yba.ntmps10
  go_wp2
  go_end0
  exact ⟨rfl, rfl⟩

/-- A time as this program makes them: d nanoseconds past the zero time. -/
def timeV (d : Nat) : Value := .agg #[.int .u64 ((d % 1000000000 : Nat) : Int), .int .i64 ((d / 1000000000 : Nat) : Int), .pointer none]

set_option maxRecDepth 100000 in
/-- (Time).Add, at the zero time. -/
theorem add_walk (d q r : Int) (hd : 0 ≤ d) (hd' : d < 9007199254740992) (hq : 0 ≤ q) (hq' : q < 9007199254740992) (hr : 0 ≤ r) (hr' : r < 1000000000)
    (t1 : d.tdiv 1000000000 = q) (t2 : d.tmod 1000000000 = r) (z2 : bits BinOp.or IntKind.u64 0 r = r) (z3 : bits BinOp.and IntKind.u64 r 9223372036854775808 = 0)
    (hadd : ∀ (b : Nat) (w : World), w.cell? ⟨b, 0, none⟩ = some (.int .u64 r) → w.cell? ⟨b, 1, none⟩ = some (.int .i64 0) → w.frozen? ⟨b, 1, none⟩ = false →
      Calls Yba.prog 10 #[.pointer (some ⟨b, 0, none⟩), .int .i64 q] w fun e w' => e = .returned (.tuple #[]) ∧ w' = w.setCell ⟨b, 1, none⟩ (.int .i64 q)) (w : World) :
    Calls Yba.prog 6 #[timeV 0, .int .i64 d] w fun e w' => e = .returned (.agg #[.int .u64 r, .int .i64 q, .pointer none]) ∧ Below w.heap.size w w' := by
  have HA := hid hadd
  clear hadd
  have z1 := andNot_zero
  unfold timeV
  go_enter Yba.func6, Yba.ntmps6
  go_wp2_with fail
  refine (nsec0 _ _ (by simp [go_sem])).mono ?_
  rintro e w' ⟨rfl, rfl⟩
  go_upto_region 3 with fail
  go_wp2_with fail
  refine (HA.out _ _ (by simp [go_sem]) (by simp [go_sem]) (by simp [go_sem])).mono ?_
  rintro e w' ⟨rfl, rfl⟩
  go_wp2_with fail
  refine bodyPost_ret (v := .agg #[.int .u64 r, .int .i64 q, .pointer none]) (by simp [results, Yba.results6, go_sem]) rfl ?_
  exact ⟨rfl, ((Below.refl _ _).alloc (Nat.le_refl _) _).alloc (by simp) _⟩

theorem add (d : Nat) (hd : d < 9007199254740992) (w : World) :
    Calls Yba.prog 6 #[timeV 0, .int .i64 d] w fun e w' => e = .returned (timeV d) ∧ Below w.heap.size w w' := by
  refine add_walk d ((d / 1000000000 : Nat) : Int) ((d % 1000000000 : Nat) : Int) (by omega) (by omega) (by omega) (by omega) (by omega) (by omega) ?_ ?_ (or_zero _ (by omega)) (and_hi _ (by omega)) ?_ w
  · rw [Int.tdiv_eq_ediv_of_nonneg (by omega)]; omega
  · rw [Int.tmod_eq_emod_of_nonneg (by omega)]; omega
  · intro b w h1 h2 h3
    exact addSec b _ _ (by omega) (by omega) w h1 h2 h3

theorem ret_i64 {x r : Int} (h : r = x) : Ending.returned (.int .i64 x) = Ending.returned (.int .i64 r) := by rw [h]

/-- What Compare answers. -/
def cmpN (c d : Nat) : Int := if c < d then -1 else if d < c then 1 else 0

set_option maxRecDepth 100000 in
theorem compare_walk (a x b y : Int) (r : Int) (hr : r = (if x = y then (if a < b then -1 else if b < a then 1 else 0) else (if x < y then -1 else if y < x then 1 else 0)))
    (a0 : 0 ≤ a) (a1 : a < 1073741824) (b0 : 0 ≤ b) (b1 : b < 1073741824) (u : Int) (hu : bits .and .u64 a b = u) (hu' : bits .and .u64 u 9223372036854775808 = 0)
    (hn : ∀ (c : Nat) (s : Int) (w : World), s = a ∨ s = b → w.cell? ⟨c, 0, none⟩ = some (.int .u64 s) → Calls Yba.prog 9 #[.pointer (some ⟨c, 0, none⟩)] w fun e w' => e = .returned (.int .i32 s) ∧ w' = w)
    (hs : ∀ (c : Nat) (s z : Int) (w : World), s = a ∨ s = b → w.cell? ⟨c, 0, none⟩ = some (.int .u64 s) → w.cell? ⟨c, 1, none⟩ = some (.int .i64 z) → Calls Yba.prog 15 #[.pointer (some ⟨c, 0, none⟩)] w fun e w' => e = .returned (.int .i64 z) ∧ w' = w)
    (w : World) :
    Calls Yba.prog 14 #[.agg #[.int .u64 a, .int .i64 x, .pointer none], .agg #[.int .u64 b, .int .i64 y, .pointer none]] w fun e w' => e = .returned (.int .i64 r) ∧ Below w.heap.size w w' := by
  have HR := hid hr
  have HN := hid hn
  have HS := hid hs
  clear hr hn hs
  go_enter Yba.func14, Yba.ntmps14
  go_wp2_with fail
  refine (HS.out _ a x _ (.inl rfl) (by simp [go_sem]) (by simp [go_sem])).mono ?_
  rintro e w' ⟨rfl, rfl⟩
  go_wp2_with fail
  refine (HS.out _ b y _ (.inr rfl) (by simp [go_sem]) (by simp [go_sem])).mono ?_
  rintro e w' ⟨rfl, rfl⟩
  have hxy : ((x == y) = true ∧ x = y) ∨ ((x == y) = false ∧ x ≠ y) := by
    by_cases h : x = y
    · exact .inl ⟨by simp [h], h⟩
    · exact .inr ⟨by simp [h], h⟩
  rcases hxy with ⟨hxy, H1⟩ | ⟨hxy, H1⟩
  all_goals replace H1 := hid H1
  · go_wp2_with fail
    refine (HN.out _ a _ (.inl rfl) (by simp [go_sem])).mono ?_
    rintro e w' ⟨rfl, rfl⟩
    go_wp2_with fail
    refine (HN.out _ b _ (.inr rfl) (by simp [go_sem])).mono ?_
    rintro e w' ⟨rfl, rfl⟩
    go_wp2_with fail
    all_goals go_ret
    all_goals refine ⟨ret_i64 ?_, ((Below.refl _ _).alloc (Nat.le_refl _) _).alloc (by simp) _⟩
    all_goals have h1 := H1.out
    all_goals have h := HR.out
    all_goals rw [if_pos h1] at h
    all_goals split at h
    all_goals (try split at h)
    all_goals omega
  · go_wp2_with fail
    all_goals go_ret
    all_goals refine ⟨ret_i64 ?_, ((Below.refl _ _).alloc (Nat.le_refl _) _).alloc (by simp) _⟩
    all_goals have h1 := H1.out
    all_goals have h := HR.out
    all_goals rw [if_neg h1] at h
    all_goals split at h
    all_goals (try split at h)
    all_goals omega

theorem compare (c d : Nat) (w : World) :
    Calls Yba.prog 14 #[timeV c, timeV d] w fun e w' => e = .returned (.int .i64 (cmpN c d)) ∧ Below w.heap.size w w' := by
  obtain ⟨u, hu, hu'⟩ := and_small (c % 1000000000) (d % 1000000000) (by omega) (by omega)
  refine compare_walk _ _ _ _ _ ?_ (by omega) (by omega) (by omega) (by omega) u hu' (and_hi u (by omega)) ?_ ?_ w
  · unfold cmpN
    repeat' split
    all_goals omega
  · intro b s w hs hc
    rcases hs with rfl | rfl
    · exact nsec b _ (by omega) w hc
    · exact nsec b _ (by omega) w hc
  · intro b s z w hs hc hc'
    rcases hs with rfl | rfl
    · exact sec b _ _ (by omega) w hc hc'
    · exact sec b _ _ (by omega) w hc hc'
end Go.Proofs.Ybulkanak
