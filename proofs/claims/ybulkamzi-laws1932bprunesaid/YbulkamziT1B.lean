import Derived.Test.YbulkamziT2B
namespace Go.Proofs.Ybulkamzi
open Go.RowKit
set_option linter.unusedVariables false
set_option linter.unusedSimpArgs false

set_option maxHeartbeats 8000000 in
set_option maxRecDepth 100000 in
theorem law_walk (x : Nat) (hx : x < 256) (a : Option Addr) (L cap : Nat) (hL : L ≤ 1024) (spot kn : Nat → Nat) (ct : Nat → Bool) (w : World) (he : Entries w a L spot kn ct) (hsp : ∀ k, spot k < 4294967296) (hkn : ∀ k, kn k < 256) :
    Calls Yba.prog 4 #[.int .u8 x, .slice a L cap] w fun e w' => e = .returned (.bool true) ∧ Below w.heap.size w w' := by
  obtain ⟨r, hr⟩ : ∃ r, r = x % 6 := ⟨_, rfl⟩
  have hr6 : r < 6 := by omega
  have er : (x : Int) % 6 = (r : Int) := by omega
  have er' : (x : Int).tmod 6 = (r : Int) := by rw [Int.tmod_eq_emod_of_nonneg (by omega)]; omega
  obtain ⟨n, hn⟩ : ∃ n, n = 2 ^ (r + 1) := ⟨_, rfl⟩
  obtain ⟨h, hh⟩ : ∃ h, h = n / 2 := ⟨_, rfl⟩
  have HN : Hid (Pow n) := by have := pow_of x; rw [← hr] at this; rw [hn]; exact this
  have hnw : wrap64 (2 * 2 ^ r) = (n : Int) := by
    rw [hn]
    clear er er' hr hh
    rcases r with _ | _ | _ | _ | _ | _ | r <;> first | decide | (simp [wrap64]; done) | omega
  have hn64 := HN.out.le
  have hn2 := HN.out.pos
  have hnev := HN.out.even
  have eh : (n : Int) / 2 = (h : Int) := by omega
  have eh' : (n : Int).tdiv 2 = (h : Int) := by rw [Int.tdiv_eq_ediv_of_nonneg (by omega)]; omega
  have HH : Hid (n = 2 * h) := by show n = 2 * h; omega
  obtain ⟨m, hm⟩ : ∃ m, m = min L h := ⟨_, rfl⟩
  have HMM := hidB hm
  have hh32 : h ≤ 32 := by omega
  have HE := hidB he
  clear he hr hn hm hh hnev
  go_enter Yba.func4, Yba.ntmps4
  go_upto_region 4 with fail
  go_upto_if 46 with fail
  rw [hnw]
  obtain ⟨bb, hbb⟩ : ∃ bb, bb = decide (h < L) := ⟨_, rfl⟩
  rw [← hbb]
  have HBB : Hid (m = if bb = true then h else L) := by
    have := HMM.out
    rw [hbb]
    show m = _
    by_cases e : h < L
    · rw [if_pos (by simpa using e)]; omega
    · rw [if_neg (by simpa using e)]; omega
  clear hbb hnw
  go_cut [6] (fun v wc => v = .int .i64 (m : Nat) ∧ wc = w)
  case first =>
    cases bb with
    | true =>
      go_wp2
      go_meet
      case rel => exact ⟨by rw [HBB.out]; rfl, rfl⟩
    | false =>
      go_wp2
      go_meet
      case rel => exact ⟨by rw [HBB.out]; rfl, rfl⟩
  case rest =>
    obtain ⟨rfl, rfl⟩ := hcut
    obtain ⟨w0, rfl⟩ : ∃ w0 : World, w0 = wc := ⟨_, rfl⟩
    have hm32 : m ≤ 32 := by have := HMM.out; omega
    obtain ⟨i61, g1, g2, g3, g4⟩ := info_parts (show (Yba.prog.info? 61).map (fun i => (i.zero, i.size, i.bytes)) = some (some (.pointer none), 1, 8) by kernel_rfl)
    have m1 := fun w => run_make (P := Yba.prog) w 89 61 i61 _ Yba.underlying89 g1 g2 .i64 .i64 (m : Int) (m : Int) (by omega) (by omega) (by rw [g4]; omega) (by omega)
    simp only [g3, Int.toNat_natCast, Nat.mul_one] at m1
    clear g1 g2 g3 g4
    have NW := hidB (new_walk n HN.out w0 (fun _ => w0.heap.size + 3) spot)
    go_upto_block 0 with (go_at_call 9; refine NW.out.mono ?_; rintro e w1 ⟨rfl, htab, hbel, hsz⟩)
    obtain ⟨kd, hkd⟩ : ∃ kd : Nat → Nat, kd = fun k => kn k % 4 := ⟨_, rfl⟩
    have HKD : Hid (∀ k, kd k = kn k % 4) := fun k => by rw [hkd]
    have START := hidB (lst_start (m := m) (kd := kd) (ct := ct) hbel hsz htab)
    clear hkd htab hbel hsz NW m1
    rw [show w0.heap.size + 2 + 1 = w0.heap.size + 3 from rfl]
    generalize (w1.alloc (Obj.cells Yba.zeroCells88 88)).alloc (Obj.cells (madeCells #[Value.pointer none] m) 61) = w3 at START ⊢
    obtain ⟨B, hB⟩ : ∃ B, B = w0.heap.size := ⟨_, rfl⟩
    rw [← hB] at START ⊢
    have HB := hidB hB
    clear hB
    go_cut [10] (fun _ wx => ∃ (rb : Nat → Nat) (ln : Nat → Option Addr) (R : Nat → Option Nat), LSt w0 wx B m n m rb spot kd ct ln R)
    case first =>
      go_wp2
      go_loopw [10] (fun v wr => ∃ (k : Nat) (rb : Nat → Nat) (ln : Nat → Option Addr) (R : Nat → Option Nat), k ≤ m ∧ v = .int .i64 k ∧ LSt w0 wr B m n k rb spot kd ct ln R) (fun v _ => m - (intOf v).toNat)
      case atStart => exact ⟨0, _, _, _, by omega, rfl, START.out⟩
      case round =>
        obtain ⟨k, rb, ln, R, hk, rfl, hst⟩ := hrel
        clear START
        by_cases hlt : k < m
        · have hkL : k < L := by have := HMM.out; omega
          obtain ⟨b, off, rfl, c0, c1, c2⟩ := HE.out k hkL
          have hbB : b < B := by rw [HB.out]; exact block_lt_of_cell c0
          have p0 := (hst.below.cell (p := ⟨b, off + k * 3, none⟩) hbB).trans c0
          have p1 := (hst.below.cell (p := ⟨b, off + k * 3 + 1, none⟩) hbB).trans c1
          have p2 := (hst.below.cell (p := ⟨b, off + k * 3 + 2, none⟩) hbB).trans c2
          clear c0 c1 c2
          obtain ⟨sp, esp⟩ : ∃ y : Int, y = ((spot k : Nat) : Int) := ⟨_, rfl⟩
          obtain ⟨kq, ekq⟩ : ∃ y : Nat, y = kn k := ⟨_, rfl⟩
          obtain ⟨kr, ekr⟩ : ∃ y : Nat, y = kd k := ⟨_, rfl⟩
          have e4 : (kq : Int) % 4 = (kr : Int) := by have := HKD.out k; omega
          have e4' : (kq : Int).tmod 4 = (kr : Int) := by rw [Int.tmod_eq_emod_of_nonneg (by omega)]; omega
          have hkr : kr < 4 := by have := HKD.out k; omega
          have hkq : kq < 256 := by rw [ekq]; exact hkn k
          rw [← esp] at p0
          rw [← ekq] at p1
          have HLT := hidB hlt
          have HKR := hidB ekr
          have HSPE := hidB esp
          have HST := hidB hst
          clear ekr esp ekq hst
          go_upto_block 2 with fail
          have SS := hidB (sw_start wr sp (kq : Int) (ct k) _ _ rfl rfl)
          generalize (wr.alloc (Obj.cells #[Value.int IntKind.u32 sp, Value.int IntKind.u8 ↑kq, Value.bool (ct k)] 91)).alloc (Obj.cells #[Value.int IntKind.i32 0, Value.int IntKind.u32 0, Value.string { data := #[] }, Value.pointer none,
            Value.pointer none, Value.int IntKind.u32 0, Value.int IntKind.u16 0, Value.int IntKind.u8 0, Value.int IntKind.u8 0] 101) = w4 at SS ⊢
          obtain ⟨s, es⟩ : ∃ s, s = wr.heap.size := ⟨_, rfl⟩
          rw [← es] at SS ⊢
          have HS := hidB es
          clear es p0 p1 p2 e4 e4'
          obtain ⟨q1, q2, q3, q4, q5, q6⟩ := SS.out
          clear SS
          go_cut [70] (fun _ wc => Sw wr wc s k kd sp (ct k))
          case first =>
            replace q2 : Below wr.heap.size wr w4 := by rw [← HS.out]; exact q2
            have S0 : Hid (kd k = 0 → Sw wr w4 s k kd sp (ct k)) := fun h => sw_none HS.out q1 q2 q3 q5 q6 h
            have S1 : Hid (kd k = 1 → ∀ o x, Sw wr ((w4.alloc o).setCell ⟨s + 1, 3, none⟩ (.pointer (some x))) s k kd sp (ct k)) := fun h o x => sw_lone HS.out q1 q2 q3 q5 q6 h o x
            have S2 : Hid (kd k = 2 → Sw wr (w4.setCell ⟨s + 1, 5, none⟩ (.int .u32 1)) s k kd sp (ct k)) := fun h => sw_queue HS.out q1 q2 q3 q5 q6 h
            have S3 : Hid (kd k = 3 → Sw wr (w4.setCell ⟨s + 1, 0, none⟩ (.int .i32 1)) s k kd sp (ct k)) := fun h => sw_lock HS.out q1 q2 q3 q5 q6 h
            have f3 : ∀ o, (w4.alloc o).cell? ⟨s + 1, 3, none⟩ = some (.pointer none) := fun o => by rw [World.cell?_alloc_past _ _ _ (by show s + 1 < w4.heap.size; omega)]; exact q1.cells.2.1
            have z3 : ∀ o, (w4.alloc o).frozen? ⟨s + 1, 3, none⟩ = false := fun o => by rw [World.frozen?_of_block (w := w4) (Below.heap_alloc w4 o _ (by show s + 1 < w4.heap.size; omega))]; exact q1.frozen 3
            have C10 := hidB (u32_store (s + 1) 5 _ 1 w4 q1.cells.2.2.2.1 (q1.frozen 5))
            have C11 := hidB (lock_walk (s + 1) none 0 0 w4 q1)
            clear q1 q2 q3 q4 q5 q6
            rcases (by omega : kr = 0 ∨ kr = 1 ∨ kr = 2 ∨ kr = 3) with rfl | rfl | rfl | rfl
            · go_wp2
              go_meet
              case rel => exact S0.out HKR.out.symm
            · go_wp2
              go_meet
              case rel => exact S1.out HKR.out.symm _ _
            · go_wp2_with (go_at_call 10; refine C10.out.mono ?_; rintro e w6 ⟨rfl, rfl⟩)
              go_meet
              case rel => exact S2.out HKR.out.symm
            · go_wp2_with (go_at_call 11; refine C11.out.mono ?_; rintro e w6 ⟨rfl, rfl⟩)
              go_meet
              case rel => exact S3.out HKR.out.symm
          case rest =>
            obtain ⟨w5, rfl⟩ : ∃ w5 : World, w5 = wc := ⟨_, rfl⟩
            obtain ⟨lnv, r5, lc5, b5, c50, c52, sz5⟩ := hcut
            clear q1 q2 q3 q4 q5 q6
            cases hct : ct k with
            | true =>
              rw [hct] at c52
              have c8 := r5.cells.2.2.2.2
              have z8 := r5.frozen 8
              have r6 := r5.top 2
              have t0 : tf0 ct k = 2 := by simp [tf0, hct]
              have b6 : Below wr.heap.size wr (w5.setCell ⟨s + 1, 8, none⟩ (.int .u8 2)) := b5.setCell (show wr.heap.size ≤ s + 1 by have := HS.out; omega) _
              have PT := hidB (put_step HST.out HN.out HLT.out (by have := HLT.out; have := HMM.out; have := HH.out; omega) HS.out (hsp k) b6 (by rw [t0]; exact r6) lc5)
              rw [← HSPE.out] at PT
              have c60 : (w5.setCell ⟨s + 1, 8, none⟩ (.int .u8 2)).cell? ⟨s, 0, none⟩ = some (.int .u32 sp) := by rw [World.cell?_setCell_other _ _ _ _ (by simp)]; exact c50
              clear r5 r6 b5 b6 t0 lc5 hct c50
              generalize hw6 : w5.setCell ⟨s + 1, 8, none⟩ (.int .u8 2) = w6 at PT c60
              go_wp2_with (go_at_call 12; refine PT.out.mono ?_; rintro e w7 ⟨rfl, ⟨u9, c9⟩, z9, hl9⟩; replace hl9 := hidB hl9)
              go_roundw
              case rel => obtain ⟨rb', ln', R', hl⟩ := hl9.out; exact ⟨k + 1, rb', ln', R', HLT.out, by go_num, hl⟩
              case measure => have := HLT.out; simp [intOf]; omega
            | false =>
              rw [hct] at c52
              have t0 : tf0 ct k = 0 := by simp [tf0, hct]
              have PT := hidB (put_step HST.out HN.out HLT.out (by have := HLT.out; have := HMM.out; have := HH.out; omega) HS.out (hsp k) b5 (by rw [t0]; exact r5) lc5)
              rw [← HSPE.out] at PT
              clear r5 b5 t0 lc5 hct
              go_wp2_with (go_at_call 12; refine PT.out.mono ?_; rintro e w7 ⟨rfl, ⟨u9, c9⟩, z9, hl9⟩; replace hl9 := hidB hl9)
              go_roundw
              case rel => obtain ⟨rb', ln', R', hl⟩ := hl9.out; exact ⟨k + 1, rb', ln', R', HLT.out, by go_num, hl⟩
              case measure => have := HLT.out; simp [intOf]; omega
        · have hkm : m = k := by omega
          subst hkm
          go_wp2
          go_meet
          case rel => exact ⟨_, _, _, hst⟩
    case rest =>
      obtain ⟨rb, ln, R, hst⟩ := hcut
      rename_i hK
      refine hK _ _ ?_
      exact from9 HE.out HB.out (by have := HMM.out; omega) hm32 hL hsp hkn HKD.out HN.out (by have := HMM.out; have := HH.out; omega) hst cap

set_option maxRecDepth 100000 in
/-- More than 1024 entries: true at once. -/
theorem law_long (x : Nat) (hx : x < 256) (a : Option Addr) (L cap : Nat) (hL : 1024 < L) (w : World) :
    Calls Yba.prog 4 #[.int .u8 x, .slice a L cap] w fun e w' => e = .returned (.bool true) ∧ Below w.heap.size w w' := by
  go_enter Yba.func4, Yba.ntmps4
  go_wp2
  go_ret
  exact ⟨rfl, Below.refl _ _⟩

theorem law_all (x : Nat) (hx : x < 256) (a : Option Addr) (L cap : Nat) (spot kn : Nat → Nat) (ct : Nat → Bool) (w : World) (he : Entries w a L spot kn ct) (hsp : ∀ k, spot k < 4294967296) (hkn : ∀ k, kn k < 256) :
    Calls Yba.prog 4 #[.int .u8 x, .slice a L cap] w fun e w' => e = .returned (.bool true) ∧ Below w.heap.size w w' := by
  by_cases h : L ≤ 1024
  · exact law_walk x hx a L cap h spot kn ct w he hsp hkn
  · exact law_long x hx a L cap (by omega) w
end Go.Proofs.Ybulkamzi
