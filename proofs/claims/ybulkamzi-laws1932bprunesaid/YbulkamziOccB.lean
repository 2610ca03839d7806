import Derived.Test.YbulkamziPruneB
import Derived.LaidEqlPtr
import Derived.Deep.RegionHeld3
namespace Go.Proofs.Ybulkamzi
open Go.RowKit
set_option linter.unusedVariables false
set_option linter.unusedSimpArgs false

theorem Yba.info225 : (Yba.prog.info? 225).map (fun i => (i.zero, i.size, i.bytes)) = some (some (.agg #[.int .u32 0, .int .u32 0, .pointer none, .pointer none]), 4, 24) := by kernel_rfl

theorem tabRow_new (n : Nat) (hev : n % 2 = 0) (rb spot : Nat → Nat) : TabRow (madeCells #[.int .u32 0, .int .u32 0, .pointer none, .pointer none] (n / 2 * 4)) n rb spot (fun _ => none) := by
  have hg : ∀ j, j < n / 2 * 4 → (madeCells #[.int .u32 0, .int .u32 0, .pointer none, .pointer none] (n / 2 * 4))[j]? = some (#[Value.int .u32 0, .int .u32 0, .pointer none, .pointer none][j % 4]!) := fun j hj => by
    unfold madeCells; simp [hj]
  refine ⟨by rw [size_madeCells]; omega, fun p hp => ?_⟩
  rw [hg _ (by omega), hg _ (by omega)]
  rcases Nat.mod_two_eq_zero_or_one p with h | h
  · rw [show (p / 2 * 4 + p % 2) % 4 = 0 by omega, show (p / 2 * 4 + 2 + p % 2) % 4 = 2 by omega]
    exact ⟨rfl, rfl⟩
  · rw [show (p / 2 * 4 + p % 2) % 4 = 1 by omega, show (p / 2 * 4 + 2 + p % 2) % 4 = 3 by omega]
    exact ⟨rfl, rfl⟩

/-- newNameTable. -/
theorem new_walk (n : Nat) (hn : Pow n) (w : World) (rb spot : Nat → Nat) :
    Calls Yba.prog 9 #[.int .i64 n] w fun e w' => e = .returned (.pointer (some ⟨w.heap.size + 1, 0, none⟩)) ∧ Tab w' (w.heap.size + 1) w.heap.size n rb spot (fun _ => none) ∧ Below w.heap.size w w' ∧ w'.heap.size = w.heap.size + 2 := by
  obtain ⟨i225, g1, g2, g3, g4⟩ := info_parts Yba.info225
  have h1 := hn.le; have h2 := hn.pos; have h3 := hn.even
  obtain ⟨g, hg⟩ : ∃ g, g = n / 2 := ⟨_, rfl⟩
  have e1 : (n : Int) / 2 = (g : Int) := by omega
  have e1' : (n : Int).tdiv 2 = (g : Int) := by rw [Int.tdiv_eq_ediv_of_nonneg (by omega)]; omega
  have m1 := fun w => run_make (P := Yba.prog) w 194 225 i225 _ Yba.underlying194 g1 g2 .i64 .i64 (g : Int) (g : Int) (by omega) (by omega) (by rw [g4]; omega) (by omega)
  simp only [g3, Int.toNat_natCast] at m1
  have TR := hidB (tabRow_new n h3 rb spot)
  rw [← hg] at TR
  have HG := hidB hg
  have hg32 : g ≤ 32 := by omega
  clear g1 g2 g3 g4 hn hg h1 h2 h3
  go_enter Yba.func9, Yba.ntmps9
  go_wp2
  go_ret
  refine ⟨rfl, ⟨?_, ⟨_, heap_alloc2_old _ _ _, TR.out⟩, fun p k _ h => by cases h⟩, ((Below.refl _ w).alloc (Nat.le_refl _) _).alloc (by simp) _, by simp⟩
  rw [cell_of_row _ _ _ _ _ _ (heap_alloc2_new _ _ _), ← HG.out]
  rfl

theorem run_eql_nil_left (w : World) (a : Addr) : (binOp .eql 61 (.pointer none) (.pointer (some a))).run Yba.prog w = .ok (.bool false) w := by
  have h : ∀ d : Nat, (Op.equalIn (d + 1) 61 (.pointer none) (.pointer (some a))).run Yba.prog w = .ok false w := fun d => by
    simp [Op.equalIn, run_underlying Yba.underlying61]
  simp only [binOp]
  simp [Op.equal, Op.maxDepth, h 9999]

set_option maxHeartbeats 1000000 in
set_option maxRecDepth 100000 in
/-- zzs1932bocc. -/
theorem occ_walk (tb gb n m k : Nat) (rb spot : Nat → Nat) (R : Nat → Option Nat) (hn : Pow n) (w : World) (h : Tab w tb gb n rb spot R) (hk : k < m) (hm : ∀ p j, p < n → R p = some j → j < m)
    (hinj : ∀ i j, i < m → j < m → rb i = rb j → i = j) (hres : ∀ j, j < m → ∃ c, w.heap[rb j]? = some (.cells c 101 (0, 0))) :
    Calls Yba.prog 14 #[.pointer (some ⟨tb, 0, none⟩), .int .i64 n, .pointer (some ⟨rb k, 0, none⟩)] w fun e w' => e = .returned (.int .i64 (cntB (fun p => R p == some k) n : Nat)) ∧ w' = w := by
  obtain ⟨j101, hj, hjs⟩ := Yba.infoSome Yba.size101
  have hle := hn.le
  have HN := hidB hn
  have HT := hidB h
  have EQ : Hid (∀ i, i < m → (binOp .eql 61 (.pointer (some ⟨rb i, 0, none⟩)) (.pointer (some ⟨rb k, 0, none⟩))).run Yba.prog w = .ok (.bool (some i == some k)) w) := fun i hi => by
    by_cases e : i = k
    · subst e; rw [run_eql_ptr_same (P := Yba.prog) w _ Yba.underlying61 hj]; simp
    · obtain ⟨ca, ha⟩ := hres i hi
      obtain ⟨cb, hb⟩ := hres k hk
      rw [run_eql_ptr_other (P := Yba.prog) w Yba.underlying61 hj (by omega) (fun e' => e (hinj i k hi hk (by simpa using e'))) ha hb]
      simp [e]
  have HM := hidB hm
  have eqn := run_eql_nil_left w ⟨rb k, 0, none⟩
  clear h hn hj hjs hinj hres hm
  go_enter Yba.func14, Yba.ntmps14
  go_wp2
  go_loopw [7, 8] (fun cv jv wr => ∃ p : Nat, p ≤ n ∧ jv = .int .i64 p ∧ cv = .int .i64 (cntB (fun p => R p == some k) p : Nat) ∧ wr = w) (fun _ jv _ => n - (intOf jv).toNat)
  case atStart => exact ⟨0, by omega, rfl, rfl, rfl⟩
  case round =>
    obtain ⟨p, hp, rfl, rfl, rfl⟩ := hrel
    by_cases hlt : p < n
    · have hc : cntB (fun p => R p == some k) (p + 1) = cntB (fun p => R p == some k) p + (if (R p == some k) = true then 1 else 0) := rfl
      have hl := cntB_le (fun p => R p == some k) p
      obtain ⟨c, ec⟩ : ∃ c, c = cntB (fun p => R p == some k) p := ⟨_, rfl⟩
      cases hR : R p with
      | none =>
        have A1 := hidB (at_none tb gb n p rb spot R HN.out hlt wr HT.out hR)
        have HC : Hid (cntB (fun p => R p == some k) (p + 1) = c) := by show _ = _; rw [hc, hR, ec]; simp
        rw [← ec] at hl ⊢
        clear hR hc ec
        go_wp2_with (go_at_call 18; refine A1.out.mono ?_; rintro e w6 ⟨rfl, rfl⟩)
        go_roundw
        case rel => exact ⟨p + 1, by omega, by go_num, by rw [HC.out], trivial⟩
        case measure => simp [intOf]; omega
      | some j =>
        have A1 := hidB (at_some tb gb n p j rb spot R HN.out hlt wr HT.out hR)
        have eq := EQ.out j (HM.out p j hlt hR)
        by_cases e : j = k
        · subst e
          have eq1 : (some j == some j) = true := by simp
          rw [eq1] at eq
          have HC : Hid (cntB (fun p => R p == some j) (p + 1) = c + 1) := by show _ = _; rw [hc, hR, ec]; simp
          rw [← ec] at hl ⊢
          clear hR hc ec eq1
          go_wp2_with (go_at_call 18; refine A1.out.mono ?_; rintro e w6 ⟨rfl, rfl⟩)
          go_roundw
          case rel => exact ⟨p + 1, by omega, by go_num, by rw [HC.out]; rfl, trivial⟩
          case measure => simp [intOf]; omega
        · have eq1 : (some j == some k) = false := by simp [e]
          rw [eq1] at eq
          have HC : Hid (cntB (fun p => R p == some k) (p + 1) = c) := by show _ = _; rw [hc, hR, ec]; simp [e]
          rw [← ec] at hl ⊢
          clear hR hc ec eq1 e
          go_wp2_with (go_at_call 18; refine A1.out.mono ?_; rintro e w6 ⟨rfl, rfl⟩)
          go_roundw
          case rel => exact ⟨p + 1, by omega, by go_num, by rw [HC.out], trivial⟩
          case measure => simp [intOf]; omega
    · have : p = n := by omega
      subst this
      go_wp2
      go_ret
      exact ⟨rfl, rfl⟩
end Go.Proofs.Ybulkamzi
