import Derived.Test.YbulkanakTime
import Derived.BigRegion
import Derived.Deep.RegionWith
import Derived.Deep.RegionHeld3
namespace Go.Proofs.Ybulkanak
open Go.RowKit
set_option linter.unusedVariables false

/-- A Time of d nanoseconds lies at cell o of block b. -/
def TimeAt (w : World) (b o d : Nat) : Prop :=
  w.cell? ⟨b, o, none⟩ = some (.int .u64 ((d % 1000000000 : Nat) : Int)) ∧ w.cell? ⟨b, o + 1, none⟩ = some (.int .i64 ((d / 1000000000 : Nat) : Int)) ∧ w.cell? ⟨b, o + 2, none⟩ = some (.pointer none)

theorem TimeAt.below {B : Nat} {w w' : World} {b o d : Nat} (h : TimeAt w b o d) (k : Below B w w') (hb : b < B) : TimeAt w' b o d := by
  obtain ⟨h1, h2, h3⟩ := h
  exact ⟨(k.cell (p := ⟨b, o, none⟩) hb).trans h1, (k.cell (p := ⟨b, o + 1, none⟩) hb).trans h2, (k.cell (p := ⟨b, o + 2, none⟩) hb).trans h3⟩

theorem below_alloc_drew {w w1 : World} {o : Obj} (h : Below (w.alloc o).drew.heap.size (w.alloc o).drew w1) : Below w.heap.size w w1 :=
  (((Below.refl w.heap.size w).alloc (Nat.le_refl _) o).drew).trans (h.mono (by show w.heap.size ≤ (w.alloc o).heap.size; simp))

theorem below_drewN (B : Nat) (w : World) (k : Nat) : Below B w (w.drewN k) := ⟨rfl, rfl, rfl, Nat.le_refl _, fun _ _ => rfl⟩

set_option maxRecDepth 100000 in
/-- (*Set).At$1: the comparison that At hands to the search. -/
theorem cmp1 (b c d : Nat) (w : World) (hb : b < w.heap.size) (ht : TimeAt w b 1 c) :
    Calls Yba.prog 13 #[.pointer (some ⟨b, 0, none⟩), timeV d] w fun e w' => e = .returned (.int .i64 (cmpN c d)) ∧ Below w.heap.size w w' := by
  obtain ⟨h1, h2, h3⟩ := ht
  have CM := hid (compare c d)
  have a1 : ∀ o, (w.alloc o).cell? ⟨b, 1, none⟩ = some (.int .u64 ((c % 1000000000 : Nat) : Int)) := fun o => by rw [World.cell?_alloc_past _ _ _ hb]; exact h1
  have a2 : ∀ o, (w.alloc o).cell? ⟨b, 2, none⟩ = some (.int .i64 ((c / 1000000000 : Nat) : Int)) := fun o => by rw [World.cell?_alloc_past _ _ _ hb]; exact h2
  have a3 : ∀ o, (w.alloc o).cell? ⟨b, 3, none⟩ = some (.pointer none) := fun o => by rw [World.cell?_alloc_past _ _ _ hb]; exact h3
  clear h1 h2 h3
  unfold timeV at CM ⊢
  obtain ⟨c1, e1⟩ : ∃ c1 : Int, c1 = ((c % 1000000000 : Nat) : Int) := ⟨_, rfl⟩
  obtain ⟨c2, e2⟩ : ∃ c1 : Int, c1 = ((c / 1000000000 : Nat) : Int) := ⟨_, rfl⟩
  obtain ⟨d1, e3⟩ : ∃ c1 : Int, c1 = ((d % 1000000000 : Nat) : Int) := ⟨_, rfl⟩
  obtain ⟨d2, e4⟩ : ∃ c1 : Int, c1 = ((d / 1000000000 : Nat) : Int) := ⟨_, rfl⟩
  rw [← e1, ← e2, ← e3, ← e4] at CM
  rw [← e3, ← e4]
  rw [← e1] at a1
  rw [← e2] at a2
  clear e1 e2 e3 e4
  obtain ⟨r, er⟩ : ∃ r : Int, r = cmpN c d := ⟨_, rfl⟩
  rw [← er] at CM ⊢
  clear er
  go_enter Yba.func13, Yba.ntmps13
  go_wp2_with fail
  go_region_with (go_at_call 14; refine (CM.out _).mono ?_; rintro e w1 ⟨rfl, hw⟩)
  all_goals
    go_wp2
    go_ret
    exact ⟨rfl, below_alloc_drew hw⟩

theorem cmp_lt {c d : Nat} (h : c < d) : cmpN c d = -1 := by simp [cmpN, h]
theorem cmp_ge {c d : Nat} (h : ¬ c < d) : 0 ≤ cmpN c d := by unfold cmpN; rw [if_neg h]; split <;> omega
theorem cmp_eq (c d : Nat) : (cmpN c d == 0) = decide (c = d) := by
  unfold cmpN
  by_cases h1 : c < d
  · rw [if_pos h1]; simp; omega
  · rw [if_neg h1]
    by_cases h2 : d < c
    · rw [if_pos h2]; simp; omega
    · rw [if_neg h2]; simp; omega

/-- The row of periods that the law builds: period i starts cum i nanoseconds past the zero time. -/
structure Periods (w : World) (bp n : Nat) (pb cum : Nat → Nat) : Prop where
  row : ∀ i, i < n → w.cell? ⟨bp, i, none⟩ = some (.pointer (some ⟨pb i, 0, none⟩))
  time : ∀ i, i < n → TimeAt w (pb i) 1 (cum i)
  lt : bp < w.heap.size
  lts : ∀ i, i < n → pb i < w.heap.size

theorem Periods.below {B : Nat} {w w' : World} {bp n : Nat} {pb cum : Nat → Nat} (h : Periods w bp n pb cum) (k : Below B w w') (hB : w.heap.size ≤ B) : Periods w' bp n pb cum :=
  ⟨fun i hi => (k.cell (p := ⟨bp, i, none⟩) (Nat.lt_of_lt_of_le h.lt hB)).trans (h.row i hi), fun i hi => (h.time i hi).below k (Nat.lt_of_lt_of_le (h.lts i hi) hB),
    Nat.lt_of_lt_of_le h.lt k.size, fun i hi => Nat.lt_of_lt_of_le (h.lts i hi) k.size⟩

theorem Below.to {w a b : World} (h : Below w.heap.size w a) (k : Below a.heap.size a b) : Below w.heap.size w b := h.trans (k.mono h.size)

/-- What the search has found. -/
def Found (n : Nat) (cum : Nat → Nat) (d i : Nat) : Prop := i ≤ n ∧ (∀ k, k < i → cum k < d) ∧ ∀ k, i ≤ k → k < n → d ≤ cum k

set_option maxHeartbeats 4000000 in
set_option maxRecDepth 100000 in
theorem search_walk (bp n d : Nat) (pb cum : Nat → Nat) (hn : n ≤ 1025) (w : World) (hp : Periods w bp n pb cum) (hs : ∀ i j, i ≤ j → j < n → cum i ≤ cum j) :
    Calls Yba.prog 12 #[.slice (some ⟨bp, 0, none⟩) n n, timeV d, .func (.func 13) #[] #[]] w fun e w' => ∃ (i : Nat) (f : Bool), e = .returned (.tuple #[.int .i64 i, .bool f]) ∧ Found n cum d i ∧ (f = decide (i < n ∧ cum i = d)) ∧ Below w.heap.size w w' := by
  have HS := hid hs
  have HP := hid hp
  clear hs hp
  unfold timeV
  have HT : Hid (TimeAt (w.alloc (.cells #[.int .u64 ((d % 1000000000 : Nat) : Int), .int .i64 ((d / 1000000000 : Nat) : Int), .pointer none] 30)) w.heap.size 0 d) := by
    refine ⟨?_, ?_, ?_⟩ <;> simp
  have CM : Hid (∀ (m : Nat), m < n → ∀ wr, Below (w.heap.size + 1) (w.alloc (.cells #[.int .u64 ((d % 1000000000 : Nat) : Int), .int .i64 ((d / 1000000000 : Nat) : Int), .pointer none] 30)) wr →
      Calls Yba.prog 13 #[.pointer (some ⟨pb m, 0, none⟩), .agg #[.int .u64 ((d % 1000000000 : Nat) : Int), .int .i64 ((d / 1000000000 : Nat) : Int), .pointer none]] wr
        fun e w' => e = .returned (.int .i64 (cmpN (cum m) d)) ∧ Below wr.heap.size wr w') := fun m hm wr hb => by
    have h0 : Periods (w.alloc (.cells #[.int .u64 ((d % 1000000000 : Nat) : Int), .int .i64 ((d / 1000000000 : Nat) : Int), .pointer none] 30)) bp n pb cum :=
      HP.out.below ((Below.refl w.heap.size w).alloc (Nat.le_refl _) _) (Nat.le_refl _)
    have h1 := h0.below hb (by simp)
    exact cmp1 (pb m) (cum m) d wr (h1.lts m hm) (h1.time m hm)
  have HP1 : Hid (Periods (w.alloc (.cells #[.int .u64 ((d % 1000000000 : Nat) : Int), .int .i64 ((d / 1000000000 : Nat) : Int), .pointer none] 30)) bp n pb cum) :=
      HP.out.below ((Below.refl w.heap.size w).alloc (Nat.le_refl _) _) (Nat.le_refl _)
  have HB : Hid (Below w.heap.size w (w.alloc (.cells #[.int .u64 ((d % 1000000000 : Nat) : Int), .int .i64 ((d / 1000000000 : Nat) : Int), .pointer none] 30))) := (Below.refl w.heap.size w).alloc (Nat.le_refl _) _
  obtain ⟨d1, e3⟩ : ∃ c1 : Int, c1 = ((d % 1000000000 : Nat) : Int) := ⟨_, rfl⟩
  obtain ⟨d2, e4⟩ : ∃ c1 : Int, c1 = ((d / 1000000000 : Nat) : Int) := ⟨_, rfl⟩
  unfold TimeAt at HT
  rw [← e3, ← e4] at HT CM HP1 HB
  rw [← e3, ← e4]
  clear e3 e4
  go_enter Yba.func12, Yba.ntmps12
  go_wp2_with fail
  obtain ⟨B, hB⟩ : ∃ B, B = w.heap.size := ⟨_, rfl⟩
  generalize hw1 : w.alloc (.cells #[.int .u64 d1, .int .i64 d2, .pointer none] 30) = w1 at HT CM HP1 HB ⊢
  rw [← hB] at HT CM HB ⊢
  have hB1 : w1.heap.size = B + 1 := by rw [hB, ← hw1]; simp
  have HBB := hid hB
  clear hB hw1 HP
  go_loopw [9, 10] (fun a b wr => ∃ i j : Nat, i ≤ j ∧ j ≤ n ∧ a = .int .i64 i ∧ b = .int .i64 j ∧ (∀ k, k < i → cum k < d) ∧ (∀ k, j ≤ k → k < n → d ≤ cum k) ∧ Below (B + 1) w1 wr) (fun a b _ => (intOf b - intOf a).toNat)
  case atStart => exact ⟨0, n, by omega, by omega, rfl, rfl, by intro k hk; omega, by intro k h1 h2; omega, Below.refl _ _⟩
  case round =>
    obtain ⟨i, j, hij, hjn, rfl, rfl, hlo, hhi, hbw⟩ := hrel
    replace hlo := hid hlo
    replace hhi := hid hhi
    by_cases hlt : i < j
    · obtain ⟨m, hm⟩ : ∃ m : Nat, m = (i + j) / 2 := ⟨_, rfl⟩
      have em : ((i : Int) + (j : Int)) / 2 = (m : Int) := by omega
      have HM : Hid (m = (i + j) / 2) := hm
      have hmn : m < n := by omega
      clear hm
      have p1 := (hbw.cell (p := ⟨B, 0, none⟩) (by simp)).trans HT.out.1
      have p2 := (hbw.cell (p := ⟨B, 1, none⟩) (by simp)).trans HT.out.2.1
      have p3 := (hbw.cell (p := ⟨B, 2, none⟩) (by simp)).trans HT.out.2.2
      have pm := (HP1.out.below hbw (by omega)).row m hmn
      by_cases hc : cum m < d
      · have CM1 : Hid (∀ wr, Below (B + 1) w1 wr → Calls Yba.prog 13 #[.pointer (some ⟨pb m, 0, none⟩), .agg #[.int .u64 d1, .int .i64 d2, .pointer none]] wr
            fun e w' => e = .returned (.int .i64 (-1)) ∧ Below wr.heap.size wr w') := fun wr h => by
          have := CM.out m hmn wr h
          rw [cmp_lt hc] at this
          exact this
        go_wp2_with fail
        go_region_with (go_at_call 13; refine (CM1.out _ hbw.drew).mono ?_; rintro e w2 ⟨rfl, hw⟩)
        all_goals
          go_wp2
          go_roundw
          case rel => exact ⟨m + 1, j, by omega, hjn, by go_num, rfl, by intro k hk; exact Nat.lt_of_le_of_lt (HS.out k m (by omega) hmn) hc, hhi.out, hbw.drew.trans (hw.mono (by show B + 1 ≤ wr.heap.size; have := hbw.size; omega))⟩
          case measure => have := HM.out; simp [intOf]; omega
      · obtain ⟨v, hv⟩ : ∃ v : Int, v = cmpN (cum m) d := ⟨_, rfl⟩
        have hv0 : 0 ≤ v := by rw [hv]; exact cmp_ge hc
        have CM1 : Hid (∀ wr, Below (B + 1) w1 wr → Calls Yba.prog 13 #[.pointer (some ⟨pb m, 0, none⟩), .agg #[.int .u64 d1, .int .i64 d2, .pointer none]] wr
            fun e w' => e = .returned (.int .i64 v) ∧ Below wr.heap.size wr w') := fun wr h => by
          have := CM.out m hmn wr h
          rw [← hv] at this
          exact this
        clear hv
        have HC := hid hc
        clear hc
        go_wp2_with fail
        go_region_with (go_at_call 13; refine (CM1.out _ hbw.drew).mono ?_; rintro e w2 ⟨rfl, hw⟩)
        all_goals
          go_wp2
          go_roundw
          case rel => exact ⟨i, m, by have := HM.out; omega, by omega, rfl, rfl, hlo.out, by intro k h1 h2; exact Nat.le_trans (Nat.le_of_not_lt HC.out) (HS.out m k h1 h2), hbw.drew.trans (hw.mono (by show B + 1 ≤ wr.heap.size; have := hbw.size; omega))⟩
          case measure => have := HM.out; simp [intOf]; omega
    · have hji : j = i := by omega
      subst hji
      have FD : Hid (Found n cum d j) := ⟨hjn, hlo.out, hhi.out⟩
      by_cases hin : j < n
      · have p1 := (hbw.cell (p := ⟨B, 0, none⟩) (by simp)).trans HT.out.1
        have p2 := (hbw.cell (p := ⟨B, 1, none⟩) (by simp)).trans HT.out.2.1
        have p3 := (hbw.cell (p := ⟨B, 2, none⟩) (by simp)).trans HT.out.2.2
        have pm := (HP1.out.below hbw (by omega)).row j hin
        have hb1 : decide ((j : Int) < (n : Int)) = true := by simp; exact hin
        obtain ⟨v, hv⟩ : ∃ v : Int, v = cmpN (cum j) d := ⟨_, rfl⟩
        have hve : Hid ((v == 0) = decide (cum j = d)) := by rw [hv]; exact cmp_eq _ _
        have CM1 : Hid (∀ wr, Below (B + 1) w1 wr → Calls Yba.prog 13 #[.pointer (some ⟨pb j, 0, none⟩), .agg #[.int .u64 d1, .int .i64 d2, .pointer none]] wr
            fun e w' => e = .returned (.int .i64 v) ∧ Below wr.heap.size wr w') := fun wr h => by
          have := CM.out j hin wr h
          rw [← hv] at this
          exact this
        clear hv
        have CM2 : Hid (∀ wr, Below (B + 1) w1 wr → Calls Yba.prog 13 #[.pointer (some ⟨pb j, 0, none⟩), .agg #[.int .u64 d1, .int .i64 d2, .pointer none]] wr
            fun e w' => e = .returned (.int .i64 v) ∧ Below (B + 1) w1 w' ∧ w'.cell? ⟨bp, j, none⟩ = some (.pointer (some ⟨pb j, 0, none⟩)) ∧ w'.cell? ⟨B, 0, none⟩ = some (.int .u64 d1) ∧ w'.cell? ⟨B, 1, none⟩ = some (.int .i64 d2) ∧ w'.cell? ⟨B, 2, none⟩ = some (.pointer none)) := fun wr h => by
          refine (CM1.out wr h).mono ?_
          rintro e w' ⟨rfl, hw⟩
          have hb2 : Below (B + 1) w1 w' := h.trans (hw.mono (by have := h.size; omega))
          exact ⟨rfl, hb2, (HP1.out.below hb2 (by omega)).row j hin, (hb2.cell (p := ⟨B, 0, none⟩) (by simp)).trans HT.out.1, (hb2.cell (p := ⟨B, 1, none⟩) (by simp)).trans HT.out.2.1, (hb2.cell (p := ⟨B, 2, none⟩) (by simp)).trans HT.out.2.2⟩
        clear CM1
        go_wp2_with fail
        go_region_held3 (fun w' => w'.cell? ⟨bp, j, none⟩ = some (.pointer (some ⟨pb j, 0, none⟩)) ∧ w'.cell? ⟨B, 0, none⟩ = some (.int .u64 d1) ∧ w'.cell? ⟨B, 1, none⟩ = some (.int .i64 d2) ∧ w'.cell? ⟨B, 2, none⟩ = some (.pointer none)) (go_keep)
          (first | (go_at_call 13; refine (CM2.out _ hbw.drew).mono ?_; rintro e w2 ⟨rfl, hw, s1, s2, s3, s4⟩))
        all_goals
          go_wp2
          go_ret2
          exact ⟨j, v == 0, rfl, FD.out, by rw [hve.out]; simp [hin], by rw [← HBB.out]; exact HB.out.trans (hw.mono (by omega))⟩
      · have hjn' : n = j := by omega
        subst hjn'
        go_wp2_with fail
        go_quiet (fail)
        go_wp2
        go_ret2
        exact ⟨n, false, rfl, FD.out, by simp, by rw [← HBB.out]; exact (HB.out.trans (hbw.mono (Nat.le_succ B))).trans (below_drewN _ _ nq)⟩
end Go.Proofs.Ybulkanak
