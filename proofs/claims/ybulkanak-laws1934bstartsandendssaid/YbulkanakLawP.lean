import Derived.Test.YbulkanakBuild
import Derived.LaidEqlPtr
import Derived.Lib.Builder
namespace Go.Proofs.Ybulkanak
open Go.RowKit
set_option linter.unusedVariables false

theorem Yba.info51 : (Yba.prog.info? 51).isSome = true := by kernel_rfl

/-- What the law's own loop counts out. -/
def wantF (cum : Nat → Nat) (d : Nat) : Nat → Nat
  | 0 => 0
  | k + 1 => if cum k ≤ d then k else wantF cum d k
theorem wantF_latest (cum : Nat → Nat) (d : Nat) (h0 : cum 0 ≤ d) : ∀ k, Latest (k + 1) cum d (wantF cum d (k + 1))
  | 0 => by
    have e : wantF cum d 1 = 0 := by simp [wantF, h0]
    rw [e]
    exact ⟨by omega, h0, fun k h1 h2 => by omega⟩
  | k + 1 => by
    obtain ⟨h1, h2, h3⟩ := wantF_latest cum d h0 k
    by_cases h : cum (k + 1) ≤ d
    · have e : wantF cum d (k + 1 + 1) = k + 1 := by rw [wantF, if_pos h]
      rw [e]
      exact ⟨by omega, h, fun j h1 h2 => by omega⟩
    · have e : wantF cum d (k + 1 + 1) = wantF cum d (k + 1) := by rw [wantF, if_neg h]
      rw [e]
      refine ⟨by omega, h2, fun j j1 j2 => ?_⟩
      by_cases hj : j = k + 1
      · subst hj; omega
      · exact h3 j j1 (by omega)

theorem Mid.periods {w wr : World} {n : Nat} {z pb : Nat → Nat} (h : Mid w wr n n z pb) : Periods wr (w.heap.size + 2) (n + 1) pb (cumF z) :=
  ⟨fun i hi => h.ps.cell (by omega), fun i hi => (h.per i (by omega)).1, h.ps.lt, fun i hi => (h.per i (by omega)).2.2⟩

set_option maxHeartbeats 4000000 in
set_option maxRecDepth 100000 in
theorem picks_walk (a : Option Addr) (n cap : Nat) (z : Nat → Nat) (q : Int) (hq0 : 0 ≤ q) (hq1 : q < 18446744073709551616) (w : World) (hn : n ≤ 1024) (hz : ∀ i, i < n → z i < 4294967296) (hi : ∀ i, i < n → ∃ x, a = some x ∧ w.cell? (x.add i) = some (.int .u32 (z i))) :
    Calls Yba.prog 3 #[.slice a n cap, .int .u64 q] w fun e w' => e = .returned (.bool true) ∧ Below w.heap.size w w' := by
  obtain ⟨j51, hj⟩ := Option.isSome_iff_exists.1 Yba.info51
  have hpe := fun (w : World) (x : Addr) => run_eql_ptr_same (P := Yba.prog) w x Yba.underlying39 hj
  have BW := hid (build_walk a n cap z w hn hz hi)
  have HZ := hid hz
  clear hz hi hj
  go_enter Yba.func3, Yba.ntmps3
  go_wp2_with fail
  refine BW.out.mono ?_
  rintro e w1 ⟨pb, rfl, hmid⟩
  clear BW
  have HM := hid hmid
  have c1 := hmid.cums.cell (i := n) (by omega)
  obtain ⟨T, eT⟩ : ∃ c : Int, c = ((cumF z n : Nat) : Int) := ⟨_, rfl⟩
  rw [← eT] at c1
  have hT := cumF_le HZ.out n (Nat.le_refl _)
  have T0 : 0 ≤ T := by omega
  have T1 : T ≤ 4398046511104 := by omega
  have d0 : 0 ≤ q % (T + 2) := Int.emod_nonneg _ (by omega)
  have d1 : q % (T + 2) < T + 2 := Int.emod_lt_of_pos _ (by omega)
  obtain ⟨d, ed⟩ : ∃ d : Nat, (d : Int) = q % (T + 2) := ⟨(q % (T + 2)).toNat, by omega⟩
  have em : q % (T + 2) = (d : Int) := ed.symm
  have em' : q.tmod (T + 2) = (d : Int) := by rw [Int.tmod_eq_emod_of_nonneg hq0]; exact em
  rw [em] at d0 d1
  have hd : d < 9007199254740992 := by omega
  clear hmid hT eT ed
  have AD : Hid (∀ wx : World, Calls Yba.prog 6 #[.agg #[.int .u64 0, .int .i64 0, .pointer none], .int .i64 d] wx fun e w' => e = .returned (timeV d) ∧ Below wx.heap.size wx w') := fun wx => add d hd wx
  have HT2 : Hid (∀ w2 : World, TimeAt (w2.alloc (.cells #[.int .u64 ((d % 1000000000 : Nat) : Int), .int .i64 ((d / 1000000000 : Nat) : Int), .pointer none] 30)) w2.heap.size 0 d) := fun w2 => by
    refine ⟨?_, ?_, ?_⟩ <;> simp
  have HAT : Hid (∀ (bs : Nat) (wx : World), bs < wx.heap.size → wx.cell? ⟨bs, 8, none⟩ = some (.slice (some ⟨w.heap.size + 2, 0, none⟩) (n + 1) (n + 1)) → Below w1.heap.size w1 wx →
      Calls Yba.prog 7 #[.pointer (some ⟨bs, 0, none⟩), timeV d] wx fun e w' => e = .returned (.pointer (some ⟨pb (wantF (cumF z) d (n + 1)), 0, none⟩)) ∧ Below wx.heap.size wx w') := fun bs wx h1 h2 h3 =>
    at_walk bs (w.heap.size + 2) (n + 1) d _ pb (cumF z) (by omega) wx h1 h2 (HM.out.periods.below h3 (Nat.le_refl _)) (fun i j h _ => cumF_lt h) (wantF_latest (cumF z) d (Nat.zero_le _) n)
  unfold timeV at AD HAT
  obtain ⟨x1, e1⟩ : ∃ c : Int, c = ((d % 1000000000 : Nat) : Int) := ⟨_, rfl⟩
  obtain ⟨x2, e2⟩ : ∃ c : Int, c = ((d / 1000000000 : Nat) : Int) := ⟨_, rfl⟩
  unfold TimeAt at HT2
  rw [← e1, ← e2] at AD HT2 HAT
  clear e1 e2
  go_upto_region 6 with fail
  go_upto_region 7 with (go_at_call 6; refine (AD.out _).mono ?_; rintro e w2 ⟨rfl, hw2⟩)
  clear c1 em em'
  have t1 := (HT2.out w2).1
  have t2 := (HT2.out w2).2.1
  have t3 := (HT2.out w2).2.2
  have b3 : Hid (Below w1.heap.size w1 (w2.alloc (.cells #[.int .u64 x1, .int .i64 x2, .pointer none] 30))) := hw2.alloc hw2.size _
  have s3 : w2.heap.size < (w2.alloc (.cells #[.int .u64 x1, .int .i64 x2, .pointer none] 30)).heap.size := by simp
  obtain ⟨bt, ebt⟩ : ∃ bt, bt = w2.heap.size := ⟨_, rfl⟩
  rw [← ebt] at t1 t2 t3 s3 ⊢
  generalize w2.alloc (.cells #[.int .u64 x1, .int .i64 x2, .pointer none] 30) = w3 at t1 t2 t3 s3 b3 ⊢
  clear ebt
  have CU : Hid (∀ k, k < n + 1 → w3.cell? ⟨w.heap.size + 1, k, none⟩ = some (.int .i64 (cumF z k : Nat))) := fun k hk =>
    (b3.out.cell (p := ⟨w.heap.size + 1, k, none⟩) HM.out.cums.lt).trans (HM.out.cums.cell hk)
  have PS : Hid (w3.cell? ⟨w.heap.size + 2, wantF (cumF z) d (n + 1), none⟩ = some (.pointer (some ⟨pb (wantF (cumF z) d (n + 1)), 0, none⟩))) :=
    (b3.out.cell (p := ⟨w.heap.size + 2, wantF (cumF z) d (n + 1), none⟩) HM.out.ps.lt).trans (HM.out.ps.cell (wantF_latest (cumF z) d (Nat.zero_le _) n).1)
  have hwl : wantF (cumF z) d (n + 1) < n + 1 := (wantF_latest (cumF z) d (Nat.zero_le _) n).1
  go_wp2_with fail
  go_loopw [10, 11] (fun m i wr => ∃ k : Nat, k ≤ n + 1 ∧ i = .int .i64 k ∧ m = .int .i64 (wantF (cumF z) d k : Nat) ∧ wr = w3) (fun _ i _ => n + 1 - (intOf i).toNat)
  case atStart => exact ⟨0, by omega, rfl, rfl, rfl⟩
  case round =>
    obtain ⟨k, hk, rfl, rfl, rfl⟩ := hrel
    by_cases hlt : k < n + 1
    · have ck := CU.out k hlt
      by_cases hle : cumF z k ≤ d
      · have e : wantF (cumF z) d (k + 1) = k := by rw [wantF, if_pos hle]
        have hle' : ((cumF z k : Nat) : Int) ≤ (d : Int) := by omega
        go_wp2
        go_roundw
        case rel => exact ⟨k + 1, by omega, by go_num, by rw [e], trivial⟩
        case measure => simp [intOf]; omega
      · have e : wantF (cumF z) d (k + 1) = wantF (cumF z) d k := by rw [wantF, if_neg hle]
        have hle' : (d : Int) < ((cumF z k : Nat) : Int) := by omega
        go_wp2
        go_roundw
        case rel => exact ⟨k + 1, by omega, by go_num, by rw [e], trivial⟩
        case measure => simp [intOf]; omega
    · have hkn : k = n + 1 := by omega
      subst hkn
      obtain ⟨m, em⟩ : ∃ m, m = wantF (cumF z) d (n + 1) := ⟨_, rfl⟩
      rw [← em] at HAT PS hwl ⊢
      clear em
      have SW : Hid (∀ o, o = Obj.cells #[.slice none 0 0, .map none, .map none, .map none, .map none, .int .i64 0, .int .i64 0, .int .i64 0, .slice (some ⟨w.heap.size + 2, 0, none⟩) (n + 1) (n + 1)] 38 →
          (wr.alloc o).cell? ⟨wr.heap.size, 8, none⟩ = some (.slice (some ⟨w.heap.size + 2, 0, none⟩) (n + 1) (n + 1)) ∧ wr.heap.size < (wr.alloc o).heap.size ∧ Below w1.heap.size w1 (wr.alloc o) ∧
          (wr.alloc o).cell? ⟨bt, 0, none⟩ = some (.int .u64 x1) ∧ (wr.alloc o).cell? ⟨bt, 1, none⟩ = some (.int .i64 x2) ∧ (wr.alloc o).cell? ⟨bt, 2, none⟩ = some (.pointer none) ∧
          (wr.alloc o).cell? ⟨w.heap.size + 2, m, none⟩ = some (.pointer (some ⟨pb m, 0, none⟩))) := fun o ho => by
        refine ⟨by rw [ho]; simp, by simp, b3.out.alloc b3.out.size o, ?_, ?_, ?_, ?_⟩
        · rw [World.cell?_alloc_past _ _ _ s3]; exact t1
        · rw [World.cell?_alloc_past _ _ _ s3]; exact t2
        · rw [World.cell?_alloc_past _ _ _ s3]; exact t3
        · rw [World.cell?_alloc_past _ _ _ (block_lt_of_cell PS.out)]; exact PS.out
      go_upto_region 14 with fail
      obtain ⟨v1, v2, v3, v4, v5, v6, v7⟩ := SW.out _ rfl
      obtain ⟨bs, ebs⟩ : ∃ bs, bs = wr.heap.size := ⟨_, rfl⟩
      rw [← ebs] at v1 v2 ⊢
      clear SW t1 t2 t3 s3 b3 CU PS ebs
      generalize wr.alloc (Obj.cells #[.slice none 0 0, .map none, .map none, .map none, .map none, .int .i64 0, .int .i64 0, .int .i64 0, .slice (some ⟨w.heap.size + 2, 0, none⟩) (n + 1) (n + 1)] 38) = w4 at v1 v2 v3 v4 v5 v6 v7 ⊢
      have lbt := block_lt_of_cell v4
      have lps := block_lt_of_cell v7
      have C7 : Hid (Calls Yba.prog 7 #[.pointer (some ⟨bs, 0, none⟩), .agg #[.int .u64 x1, .int .i64 x2, .pointer none]] w4.drew fun e w' => e = .returned (.pointer (some ⟨pb m, 0, none⟩)) ∧ Hid (Below w4.heap.size w4 w') ∧
          w'.cell? ⟨bt, 0, none⟩ = some (.int .u64 x1) ∧ w'.cell? ⟨bt, 1, none⟩ = some (.int .i64 x2) ∧ w'.cell? ⟨bt, 2, none⟩ = some (.pointer none) ∧ w'.cell? ⟨w.heap.size + 2, m, none⟩ = some (.pointer (some ⟨pb m, 0, none⟩))) := by
        refine (HAT.out bs w4.drew v2 v1 v3.drew).mono ?_
        rintro e w' ⟨rfl, hb⟩
        have hb' : Below w4.heap.size w4 w' := (Below.refl _ w4).drew.trans hb
        exact ⟨rfl, hb', (hb'.cell (p := ⟨bt, 0, none⟩) lbt).trans v4, (hb'.cell (p := ⟨bt, 1, none⟩) lbt).trans v5, (hb'.cell (p := ⟨bt, 2, none⟩) lbt).trans v6, (hb'.cell (p := ⟨w.heap.size + 2, m, none⟩) lps).trans v7⟩
      have HB4 : Hid (Below w.heap.size w w4) := HM.out.below.trans (v3.mono HM.out.below.size)
      have hm1 : (m : Int) < ((n : Int) + 1) := by omega
      clear HAT v1 v2 v3 lbt lps HM
      go_region_held3 (fun w' => w'.cell? ⟨bt, 0, none⟩ = some (.int .u64 x1) ∧ w'.cell? ⟨bt, 1, none⟩ = some (.int .i64 x2) ∧ w'.cell? ⟨bt, 2, none⟩ = some (.pointer none) ∧ w'.cell? ⟨w.heap.size + 2, m, none⟩ = some (.pointer (some ⟨pb m, 0, none⟩))) (go_keep)
        (first | (go_at_call 7; refine C7.out.mono ?_; rintro e w5 ⟨rfl, hw, s1, s2, s3, s4⟩))
      all_goals
        go_wp2
        go_ret
        exact ⟨rfl, HB4.out.trans (hw.out.mono HB4.out.size)⟩
end Go.Proofs.Ybulkanak
