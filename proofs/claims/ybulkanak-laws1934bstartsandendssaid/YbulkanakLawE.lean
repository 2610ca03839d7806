import Derived.Test.YbulkanakLawP
namespace Go.Proofs.Ybulkanak
open Go.RowKit
set_option linter.unusedVariables false

theorem latest_start (z : Nat → Nat) (n k : Nat) (h : k < n) : Latest n (cumF z) (cumF z k) k := ⟨h, Nat.le_refl _, fun j h1 _ => cumF_lt h1⟩
theorem latest_end (z : Nat → Nat) (n k : Nat) (h : k + 1 < n) : Latest n (cumF z) (cumF z (k + 1) - 1) k := by
  have h1 : cumF z (k + 1) = cumF z k + z k + 1 := rfl
  refine ⟨by omega, by omega, fun j j1 j2 => ?_⟩
  rcases Nat.eq_or_lt_of_le (show k + 1 ≤ j by omega) with rfl | h'
  · omega
  · have := cumF_lt (z := z) h'; omega

/-- What stands while the law's loop runs: the set, the zero time, the starts and the periods. -/
structure Stage (w w3 : World) (n bs bt : Nat) (z pb : Nat → Nat) : Prop where
  set : w3.cell? ⟨bs, 8, none⟩ = some (.slice (some ⟨w.heap.size + 2, 0, none⟩) (n + 1) (n + 1))
  base : w3.cell? ⟨bt, 0, none⟩ = some (.int .u64 0) ∧ w3.cell? ⟨bt, 1, none⟩ = some (.int .i64 0) ∧ w3.cell? ⟨bt, 2, none⟩ = some (.pointer none)
  cums : ∀ k, k < n + 1 → w3.cell? ⟨w.heap.size + 1, k, none⟩ = some (.int .i64 (cumF z k : Nat))
  pers : Periods w3 (w.heap.size + 2) (n + 1) pb (cumF z)

theorem Stage.below {w w3 wx : World} {n bs bt : Nat} {z pb : Nat → Nat} (h : Stage w w3 n bs bt z pb) (k : Below w3.heap.size w3 wx) : Stage w wx n bs bt z pb := by
  obtain ⟨h1, ⟨h2, h3, h4⟩, h5, h6⟩ := h
  refine ⟨(k.cell (p := ⟨bs, 8, none⟩) (block_lt_of_cell h1)).trans h1, ⟨(k.cell (p := ⟨bt, 0, none⟩) (block_lt_of_cell h2)).trans h2, (k.cell (p := ⟨bt, 1, none⟩) (block_lt_of_cell h3)).trans h3,
    (k.cell (p := ⟨bt, 2, none⟩) (block_lt_of_cell h4)).trans h4⟩, fun j hj => (k.cell (p := ⟨w.heap.size + 1, j, none⟩) (block_lt_of_cell (h5 j hj))).trans (h5 j hj), h6.below k (Nat.le_refl _)⟩

theorem stage_add {w w3 : World} {n bs bt : Nat} {z pb : Nat → Nat} (h : Stage w w3 n bs bt z pb) (d : Nat) (hd : d < 9007199254740992) (wx : World) (hx : Below w3.heap.size w3 wx) :
    Calls Yba.prog 6 #[timeV 0, .int .i64 d] wx fun e w' => e = .returned (timeV d) ∧ Below w3.heap.size w3 w' ∧ Stage w w' n bs bt z pb := by
  refine (add d hd wx).mono ?_
  rintro e w' ⟨rfl, hb⟩
  have hb2 := hx.trans (hb.mono hx.size)
  exact ⟨rfl, hb2, h.below hb2⟩
theorem stage_at {w w3 : World} {n bs bt : Nat} {z pb : Nat → Nat} (h : Stage w w3 n bs bt z pb) (hn : n ≤ 1024) (d t : Nat) (ht : Latest (n + 1) (cumF z) d t) (wx : World) (hx : Below w3.heap.size w3 wx) :
    Calls Yba.prog 7 #[.pointer (some ⟨bs, 0, none⟩), timeV d] wx fun e w' => e = .returned (.pointer (some ⟨pb t, 0, none⟩)) ∧ Below w3.heap.size w3 w' ∧ Stage w w' n bs bt z pb := by
  have h2 := h.below hx
  refine (at_walk bs (w.heap.size + 2) (n + 1) d t pb (cumF z) (by omega) wx (block_lt_of_cell h2.set) h2.set h2.pers (fun i j h _ => cumF_lt h) ht).mono ?_
  rintro e w' ⟨rfl, hb⟩
  have hb2 := hx.trans (hb.mono hx.size)
  exact ⟨rfl, hb2, h.below hb2⟩

set_option maxHeartbeats 4000000 in
set_option maxRecDepth 100000 in
theorem ends_walk (a : Option Addr) (n cap : Nat) (z : Nat → Nat) (w : World) (hn : n ≤ 1024) (hz : ∀ i, i < n → z i < 4294967296) (hi : ∀ i, i < n → ∃ x, a = some x ∧ w.cell? (x.add i) = some (.int .u32 (z i))) :
    Calls Yba.prog 4 #[.slice a n cap] w fun e w' => e = .returned (.bool true) ∧ Below w.heap.size w w' := by
  obtain ⟨j51, hj⟩ := Option.isSome_iff_exists.1 Yba.info51
  have hpe := fun (w : World) (x : Addr) => Lib.run_neq_ptr_same (P := Yba.prog) w x Yba.underlying39 hj
  have BW := hid (build_walk a n cap z w hn hz hi)
  have HZ := hid hz
  clear hz hi hj
  go_enter Yba.func4, Yba.ntmps4
  go_wp2_with fail
  refine BW.out.mono ?_
  rintro e w1 ⟨pb, rfl, hmid⟩
  clear BW
  have HM := hid hmid
  clear hmid
  go_wp2_with fail
  have SG : Hid (∀ A B, A = #[.slice none 0 0, .map none, .map none, .map none, .map none, .int .i64 0, .int .i64 0, .int .i64 0, .slice (some ⟨w.heap.size + 2, 0, none⟩) (n + 1) (n + 1)] → B = #[.int .u64 0, .int .i64 0, .pointer none] →
      Stage w ((w1.alloc (.cells A 38)).alloc (.cells B 30)) n w1.heap.size (w1.heap.size + 1) z pb ∧ Below w.heap.size w ((w1.alloc (.cells A 38)).alloc (.cells B 30))) := fun A B hA hB => by
    have hb : Below w1.heap.size w1 ((w1.alloc (.cells A 38)).alloc (.cells B 30)) := ((Below.refl _ w1).alloc (Nat.le_refl _) _).alloc (by simp) _
    refine ⟨⟨?_, ⟨?_, ?_, ?_⟩, fun k hk => ?_, HM.out.periods.below hb (Nat.le_refl _)⟩, HM.out.below.trans (hb.mono HM.out.below.size)⟩
    · rw [cell_of_row _ _ _ _ _ _ (heap_alloc2_old w1 (.cells A 38) (.cells B 30)), hA]; rfl
    · rw [cell_of_row _ _ _ _ _ _ (heap_alloc2_new w1 (.cells A 38) (.cells B 30)), hB]; rfl
    · rw [cell_of_row _ _ _ _ _ _ (heap_alloc2_new w1 (.cells A 38) (.cells B 30)), hB]; rfl
    · rw [cell_of_row _ _ _ _ _ _ (heap_alloc2_new w1 (.cells A 38) (.cells B 30)), hB]; rfl
    · exact (hb.cell (p := ⟨w.heap.size + 1, k, none⟩) HM.out.cums.lt).trans (HM.out.cums.cell hk)
  have SG1 := hid (SG.out _ _ rfl rfl)
  clear SG
  generalize (w1.alloc (Obj.cells #[.slice none 0 0, .map none, .map none, .map none, .map none, .int .i64 0, .int .i64 0, .int .i64 0, .slice (some ⟨w.heap.size + 2, 0, none⟩) (n + 1) (n + 1)] 38)).alloc (.cells #[.int .u64 0, .int .i64 0, .pointer none] 30) = w3 at SG1 ⊢
  obtain ⟨bt, ebt⟩ : ∃ b, b = w1.heap.size + 1 := ⟨_, rfl⟩
  rw [← ebt] at SG1 ⊢
  obtain ⟨bs, ebs⟩ : ∃ b, b = w1.heap.size := ⟨_, rfl⟩
  rw [← ebs] at SG1 ⊢
  clear ebs ebt
  have SW := hid SG1.out.1
  have SB := hid SG1.out.2
  clear SG1 HM
  go_loopw [7] (fun i wr => ∃ k : Nat, k ≤ n + 1 ∧ i = .int .i64 k ∧ Below w3.heap.size w3 wr) (fun i _ => n + 1 - (intOf i).toNat)
  case atStart => exact ⟨0, by omega, rfl, Below.refl _ _⟩
  case round =>
    obtain ⟨k, hk, rfl, hbw⟩ := hrel
    by_cases hlt : k < n + 1
    · have hst := SW.out.below hbw
      obtain ⟨b1, b2, b3⟩ := hst.base
      have c1 := hst.cums k hlt
      have p1 := hst.pers.row k hlt
      obtain ⟨N1, hN1⟩ : ∃ m : Nat, m = n + 1 := ⟨_, rfl⟩
      obtain ⟨ck, eck⟩ : ∃ c : Int, c = ((cumF z k : Nat) : Int) := ⟨_, rfl⟩
      obtain ⟨x1, ex1⟩ : ∃ c : Int, c = ((cumF z k % 1000000000 : Nat) : Int) := ⟨_, rfl⟩
      obtain ⟨x2, ex2⟩ : ∃ c : Int, c = ((cumF z k / 1000000000 : Nat) : Int) := ⟨_, rfl⟩
      have hck := cumF_le HZ.out k (by omega)
      have A6 : Hid (∀ wx, Below w3.heap.size w3 wx → Calls Yba.prog 6 #[.agg #[.int .u64 0, .int .i64 0, .pointer none], .int .i64 ck] wx fun e w' => e = .returned (.agg #[.int .u64 x1, .int .i64 x2, .pointer none]) ∧ Below w3.heap.size w3 w' ∧
          w'.cell? ⟨bt, 0, none⟩ = some (.int .u64 0) ∧ w'.cell? ⟨bt, 1, none⟩ = some (.int .i64 0) ∧ w'.cell? ⟨bt, 2, none⟩ = some (.pointer none) ∧ w'.cell? ⟨w.heap.size + 1, k, none⟩ = some (.int .i64 ck) ∧ w'.cell? ⟨w.heap.size + 2, k, none⟩ = some (.pointer (some ⟨pb k, 0, none⟩))) := fun wx hx => by
        rw [eck, ex1, ex2]
        refine (stage_add SW.out (cumF z k) (by omega) wx hx).mono ?_
        rintro e w' ⟨rfl, h1, h2⟩
        exact ⟨rfl, h1, h2.base.1, h2.base.2.1, h2.base.2.2, h2.cums k hlt, h2.pers.row k hlt⟩
      have A7 : Hid (∀ wx, Below w3.heap.size w3 wx → Calls Yba.prog 7 #[.pointer (some ⟨bs, 0, none⟩), .agg #[.int .u64 x1, .int .i64 x2, .pointer none]] wx fun e w' => e = .returned (.pointer (some ⟨pb k, 0, none⟩)) ∧ Below w3.heap.size w3 w' ∧
          w'.cell? ⟨bt, 0, none⟩ = some (.int .u64 0) ∧ w'.cell? ⟨bt, 1, none⟩ = some (.int .i64 0) ∧ w'.cell? ⟨bt, 2, none⟩ = some (.pointer none) ∧ w'.cell? ⟨w.heap.size + 1, k, none⟩ = some (.int .i64 ck) ∧ w'.cell? ⟨w.heap.size + 2, k, none⟩ = some (.pointer (some ⟨pb k, 0, none⟩))) := fun wx hx => by
        rw [eck, ex1, ex2]
        refine (stage_at SW.out hn (cumF z k) k (latest_start z (n + 1) k hlt) wx hx).mono ?_
        rintro e w' ⟨rfl, h1, h2⟩
        exact ⟨rfl, h1, h2.base.1, h2.base.2.1, h2.base.2.2, h2.cums k hlt, h2.pers.row k hlt⟩
      rw [← eck] at c1
      have hbd := hbw.drew
      have ki0 : (0 : Int) ≤ (k : Int) := by omega
      have ki1 : (k : Int) < (N1 : Int) := by omega
      have HN := hid hN1
      have HL := hid hlt
      have HC := hid hck
      clear hst eck ex1 ex2 hck
      go_upto_region 9 with fail
      rw [← hN1]
      clear hN1 hlt
      go_region_held3 (fun w' => w'.cell? ⟨bt, 0, none⟩ = some (.int .u64 0) ∧ w'.cell? ⟨bt, 1, none⟩ = some (.int .i64 0) ∧ w'.cell? ⟨bt, 2, none⟩ = some (.pointer none) ∧ w'.cell? ⟨w.heap.size + 1, k, none⟩ = some (.int .i64 ck) ∧ w'.cell? ⟨w.heap.size + 2, k, none⟩ = some (.pointer (some ⟨pb k, 0, none⟩))) (go_keep)
        (first | (go_at_call 6; refine (A6.out _ hbd).mono ?_; rintro e w5 ⟨rfl, h5, s1, s2, s3, s4, s5⟩) | (go_at_call 7; refine (A7.out _ h5).mono ?_; rintro e w6 ⟨rfl, h6, q1, q2, q3, q4, q5⟩))
      clear A6 A7 b1 b2 b3 c1 p1 s1 s2 s3 s4 s5 q4 q5 h5 hbd hbw
      have hk1 := HL.out
      by_cases hkn : k < n
      · obtain ⟨K1, hK1⟩ : ∃ m : Nat, m = k + 1 := ⟨_, rfl⟩
        have hst := SW.out.below h6
        have c1 := hst.cums (k + 1) (by omega)
        have p1 := hst.pers.row k hk1
        obtain ⟨cl, ecl⟩ : ∃ c : Int, c = ((cumF z (k + 1) : Nat) : Int) := ⟨_, rfl⟩
        have hcl := cumF_le HZ.out (k + 1) (by omega)
        have hpos : 1 ≤ cumF z (k + 1) := by show 1 ≤ cumF z k + z k + 1; omega
        obtain ⟨d, ed⟩ : ∃ d : Nat, d = cumF z (k + 1) - 1 := ⟨_, rfl⟩
        have hdc : cl - 1 = (d : Int) := by omega
        have hl1 := latest_end z (n + 1) k (by omega)
        rw [← ed] at hl1
        obtain ⟨y1, ey1⟩ : ∃ c : Int, c = ((d % 1000000000 : Nat) : Int) := ⟨_, rfl⟩
        obtain ⟨y2, ey2⟩ : ∃ c : Int, c = ((d / 1000000000 : Nat) : Int) := ⟨_, rfl⟩
        have A6 : Hid (∀ wx, Below w3.heap.size w3 wx → Calls Yba.prog 6 #[.agg #[.int .u64 0, .int .i64 0, .pointer none], .int .i64 (cl - 1)] wx fun e w' => e = .returned (.agg #[.int .u64 y1, .int .i64 y2, .pointer none]) ∧ Below w3.heap.size w3 w' ∧
            w'.cell? ⟨bt, 0, none⟩ = some (.int .u64 0) ∧ w'.cell? ⟨bt, 1, none⟩ = some (.int .i64 0) ∧ w'.cell? ⟨bt, 2, none⟩ = some (.pointer none) ∧ w'.cell? ⟨w.heap.size + 1, K1, none⟩ = some (.int .i64 cl) ∧ w'.cell? ⟨w.heap.size + 2, k, none⟩ = some (.pointer (some ⟨pb k, 0, none⟩))) := fun wx hx => by
          rw [hdc, ey1, ey2, ecl, hK1]
          refine (stage_add SW.out d (by omega) wx hx).mono ?_
          rintro e w' ⟨rfl, h1, h2⟩
          exact ⟨rfl, h1, h2.base.1, h2.base.2.1, h2.base.2.2, h2.cums (k + 1) (by omega), h2.pers.row k hk1⟩
        have A7 : Hid (∀ wx, Below w3.heap.size w3 wx → Calls Yba.prog 7 #[.pointer (some ⟨bs, 0, none⟩), .agg #[.int .u64 y1, .int .i64 y2, .pointer none]] wx fun e w' => e = .returned (.pointer (some ⟨pb k, 0, none⟩)) ∧ Below w3.heap.size w3 w' ∧
            w'.cell? ⟨bt, 0, none⟩ = some (.int .u64 0) ∧ w'.cell? ⟨bt, 1, none⟩ = some (.int .i64 0) ∧ w'.cell? ⟨bt, 2, none⟩ = some (.pointer none) ∧ w'.cell? ⟨w.heap.size + 1, K1, none⟩ = some (.int .i64 cl) ∧ w'.cell? ⟨w.heap.size + 2, k, none⟩ = some (.pointer (some ⟨pb k, 0, none⟩))) := fun wx hx => by
          rw [ey1, ey2, ecl, hK1]
          refine (stage_at SW.out hn d k hl1 wx hx).mono ?_
          rintro e w' ⟨rfl, h1, h2⟩
          exact ⟨rfl, h1, h2.base.1, h2.base.2.1, h2.base.2.2, h2.cums (k + 1) (by omega), h2.pers.row k hk1⟩
        rw [← ecl, ← hK1] at c1
        have hbd := h6.drew
        have wk : IntKind.i64.wrap ((k : Int) + 1) = (K1 : Int) := by rw [IntKind.wrap_i64]; omega
        have eK : (k : Int) + 1 = (K1 : Int) := by omega
        have wk' : IntKind.i64.wrap (K1 : Int) = (K1 : Int) := by rw [IntKind.wrap_i64]; omega
        have wc : IntKind.i64.wrap (cl - 1) = cl - 1 := by rw [IntKind.wrap_i64]; omega
        have hN1 := HN.out
        have Ki0 : (0 : Int) ≤ (K1 : Int) := by omega
        have Ki1 : (K1 : Int) < (N1 : Int) := by omega
        have HK := hid hK1
        clear hst ecl hcl hpos ed hdc hl1 ey1 ey2 hK1 hN1
        go_upto_region 12 with fail
        go_region_held3 (fun w' => w'.cell? ⟨bt, 0, none⟩ = some (.int .u64 0) ∧ w'.cell? ⟨bt, 1, none⟩ = some (.int .i64 0) ∧ w'.cell? ⟨bt, 2, none⟩ = some (.pointer none) ∧ w'.cell? ⟨w.heap.size + 1, K1, none⟩ = some (.int .i64 cl) ∧ w'.cell? ⟨w.heap.size + 2, k, none⟩ = some (.pointer (some ⟨pb k, 0, none⟩))) (go_keep)
          (first | (go_at_call 6; refine (A6.out _ hbd).mono ?_; rintro e w7 ⟨rfl, h7, s1, s2, s3, s4, s5⟩) | (go_at_call 7; refine (A7.out _ h7).mono ?_; rintro e w8 ⟨rfl, h8, r1, r2, r3, r4, r5⟩))
        have hN1 := HN.out
        subst hN1
        have hK1 := HK.out
        subst hK1
        clear wk wk' eK
        go_wp2
        go_roundw
        case rel => exact ⟨k + 1, by omega, by go_num, h8⟩
        case measure => simp [intOf]; omega
      · have hN1 := HN.out
        subst hN1
        have hkn' : k = n := by omega
        subst hkn'
        go_wp2
        go_roundw
        case rel => exact ⟨k + 1, by omega, by go_num, h6⟩
        case measure => simp [intOf]
    · have hkn : k = n + 1 := by omega
      subst hkn
      go_wp2
      go_ret
      exact ⟨rfl, SB.out.trans (hbw.mono SB.out.size)⟩
end Go.Proofs.Ybulkanak
