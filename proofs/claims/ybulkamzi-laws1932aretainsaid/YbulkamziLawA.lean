import Derived.Test.YbulkamziBack
import Derived.BigQuiet
namespace Go.Proofs.Ybulkamzi
open Go.RowKit

set_option maxRecDepth 100000 in
set_option maxHeartbeats 2000000 in
theorem law_main (ca sa ba : Option Addr) (n nc mm mc bn bc : Nat) (x : Int) (f : Nat → Int × Int) (g : Nat → Int) (K : Nat → Bool) (w : World) (hn : n ≤ 1024) (hmm : mm ≤ 1024) (hbn : bn ≤ 1024)
    (hc : Convs w ca n f) (hs : Steps w sa mm g) (hb : Bits w ba bn K) (hx0 : 0 ≤ x) (hx1 : x < 18446744073709551616) :
    Calls Yba.prog 3 #[.slice ca n nc, .slice sa mm mc, .slice ba bn bc, .int .u64 x] w fun e w' => e = .returned (.bool true) ∧ Below w.heap.size w w' := by
  obtain ⟨i31, g1, g2, g3, g4⟩ := info_parts Yba.info31
  obtain ⟨i35, k1, k2, k3, k4⟩ := info_parts Yba.info35
  have m1 := fun w => run_make (P := Yba.prog) w 26 31 i31 _ Yba.underlying26 g1 g2 .i64 .i64 n n (by omega) (by omega) (by rw [g4]; omega) (by omega)
  have m2 := fun w => run_make (P := Yba.prog) w 32 35 i35 _ Yba.underlying32 k1 k2 .i64 .i64 mm mm (by omega) (by omega) (by rw [k4]; omega) (by omega)
  have m3 := fun w => run_make (P := Yba.prog) w 26 31 i31 _ Yba.underlying26 g1 g2 .i64 .i64 0 n (by omega) (by omega) (by rw [g4]; omega) (by omega)
  simp only [g3, k3, Int.toNat_natCast, Int.toNat_zero] at m1 m2 m3
  have G1 := hid g1
  have G3 := hid g3
  have K1 := hid k1
  have K3 := hid k3
  have HC := hid hc
  have HS := hid hs
  have HB := hid hb
  have HX1 := hid hx1
  clear hc hs hb k1 k2 k3 k4 g1 g2 g3 g4 hx1
  go_enter Yba.func3, Yba.ntmps3
  go_upto_block 0 with fail
  go_cut [] (fun wc => L1 w wc ba bn bc n n f)
  case first =>
    go_wp2_with fail
    go_loopw [52] (fun i wr => ∃ k : Nat, k ≤ n ∧ i = .int .i64 k ∧ L1 w wr ba bn bc n k f) (fun i _ => n - (intOf i).toNat)
    case atStart => exact ⟨0, Nat.zero_le _, rfl, L1.start _ _ _ _ _ _⟩
    case round =>
      obtain ⟨k, hk, rfl, h1⟩ := hrel
      have H1 := hid h1
      have hz : w.heap.size + 1 < wr.heap.size := h1.size
      by_cases hlt : k < n
      · obtain ⟨b, off, rfl, a0, a1⟩ := HC.out k hlt
        have b0 := (h1.below.cell (p := ⟨b, off + k * 2, none⟩) (block_lt_of_cell a0)).trans a0
        have b1 := (h1.below.cell (p := ⟨b, off + k * 2 + 1, none⟩) (block_lt_of_cell a1)).trans a1
        obtain ⟨⟨u0, c0⟩, ⟨u1, c1⟩, f0, f1⟩ := h1.orig.there hlt
        clear h1 a0 a1 m1 m2
        go_wp2
        go_roundw
        case rel => exact ⟨k + 1, by omega, by go_num, H1.out.step hlt _⟩
        case measure => simp [intOf]; omega
      · have hkn : n = k := by omega
        subst hkn
        clear h1 m1 m2
        go_wp2
        go_meet
        case rel => exact H1.out
  case rest =>
    have H1 := hid hcut
    clear hcut
    obtain ⟨p, hp⟩ : ∃ p, wc.heap.size = p := ⟨_, rfl⟩
    have HP := hid hp
    go_upto_block 2 with fail
    clear hp
    go_cut [14] (fun s wc2 => L2 w wc2 ba bn bc n f p mm mm (fun i => (curM g n (i + 1) : Int)) ∧ s = .int .i64 (curM g n mm : Int))
    case first =>
      go_wp2_with fail
      go_loopw [14, 71] (fun s i wr => ∃ k : Nat, k ≤ mm ∧ i = .int .i64 k ∧ s = .int .i64 (curM g n k : Int) ∧ L2 w wr ba bn bc n f p mm k (fun i => (curM g n (i + 1) : Int))) (fun _ i _ => mm - (intOf i).toNat)
      case atStart => exact ⟨0, Nat.zero_le _, rfl, rfl, by rw [← HP.out]; exact L2.start H1.out _ _⟩
      case round =>
        obtain ⟨k, hk, rfl, rfl, h2⟩ := hrel
        have H2 := hid h2
        by_cases hlt : k < mm
        · obtain ⟨b, off, rfl, a0, gl, gh⟩ := HS.out k hlt
          have b0 := (h2.below.cell (p := ⟨b, off + k, none⟩) (block_lt_of_cell a0)).trans a0
          obtain ⟨⟨u0, c0⟩, ⟨u1, c1⟩, ⟨u2, c2⟩, f0, f1, f2⟩ := h2.marks.there hlt
          have hcm := curM_le g n k
          clear h2 a0 m1 m2
          by_cases hgt : (n : Int) < (curM g n k : Int) + g k % 3
          · have HE : Hid ((n : Int) = (curM g n (k + 1) : Int)) := by show _ = _; simp only [curM]; omega
            go_wp2
            go_roundw
            case rel => exact ⟨k + 1, by omega, by go_num, by rw [← HE.out], H2.out.step' hlt HE.out⟩
            case measure => simp [intOf]; omega
          · have HE : Hid ((curM g n k : Int) + g k % 3 = (curM g n (k + 1) : Int)) := by show _ = _; simp only [curM]; omega
            go_wp2
            go_roundw
            case rel => exact ⟨k + 1, by omega, by go_num, by rw [← HE.out], H2.out.step' hlt HE.out⟩
            case measure => simp [intOf]; omega
        · have hkn : mm = k := by omega
          subst hkn
          clear h2 m1 m2
          go_wp2
          go_meet
          case rel => exact ⟨H2.out, rfl⟩
    case rest =>
      obtain ⟨h2, rfl⟩ := hcut
      have H2 := hid h2
      have hsz := h2.size
      have hpl : w.heap.size + 2 ≤ p := h2.lt
      clear h2
      obtain ⟨src, hsrc, hrow⟩ := H2.out.orig
      obtain ⟨src3, hsrc3, hrow3⟩ := H2.out.marks.whole
      have HR := hid (And.intro hsrc (And.intro hrow (And.intro hsrc3 hrow3)))
      clear hsrc hrow hsrc3 hrow3
      obtain ⟨w1, hrun1, hcp1⟩ := run_copy_whole (P := Yba.prog) ((wc.alloc (.cells #[.slice none 0 0, .int .u64 7, .slice (some ⟨p + 1 + 1, 0, none⟩) n n, .int .i64 0, .int .i64 0, .int .u64 0] 39)).alloc (.cells (madeCells #[.int .i32 0, .int .u8 0] (n * 2)) 31)) 26 3 31 Yba.underlying26 i31 G1.out 2 G3.out (p + 1 + 1) (w.heap.size + 1) n _ src 31 31 (copy1 H2.out n).1 ((copy1 H2.out n).2.1.trans HR.out.1) (size_madeCells _ _) HR.out.2.1.1 (row2_one HR.out.2.1)
      have hF := front1 H2.out HR.out.2.1 HR.out.2.2.1 hcp1
      have HF := hid hF
      obtain ⟨a1, a2⟩ := hF.spc
      have a3 := hF.size
      clear hF hcp1
      obtain ⟨w2, hrun2, hcp2⟩ := run_copy_whole (P := Yba.prog) ((w1.setCell ⟨p + 1, 0, none⟩ (.slice (some ⟨p + 3, 0, none⟩) mm mm)).alloc (.cells (madeCells #[.int .i64 0, .int .i64 0, .int .u64 0] (mm * 3)) 35)) 32 3 35 Yba.underlying32 i35 K1.out 3 K3.out (p + 3) p mm _ src3 35 35 (copy2 HF.out mm).1 ((copy2 HF.out mm).2.1.trans HF.out.omarks) (size_madeCells _ _) HR.out.2.2.2.1 (row3_one HR.out.2.2.2)
      have hG := front2 HF.out HR.out.2.2.2 hcp2
      have HG := hid hG
      have b1 := hG.size
      clear hG hcp2 HF HR
      obtain ⟨fr, hfl, hfr⟩ : ∃ fr : Nat, fr ≤ n ∧ x % ((n : Int) + 1) = (fr : Int) :=
        ⟨(x % ((n : Int) + 1)).toNat, by have := Int.emod_lt_of_pos x (show (0 : Int) < (n : Int) + 1 by omega); have := Int.emod_nonneg x (show (n : Int) + 1 ≠ 0 by omega); omega, by have := Int.emod_nonneg x (show (n : Int) + 1 ≠ 0 by omega); omega⟩
      go_upto_region 29 with fail
      go_cut [] (fun w5 => BK w w5 ba bn bc n f p mm (fun i => curM g n (i + 1)) fr K)
      case first =>
        go_wp2_with fail
        refine (call_retain HG.out K fr hn hmm hfl (fun i _ => curM_le _ _ _) (fun i j hij _ => curM_mono g n _ _ (by omega)) hbn HB.out).mono ?_
        rintro e w5 ⟨rfl, hbk⟩
        have HBK := hid hbk
        clear hbk
        go_wp2
        go_meet
        case rel => exact HBK.out
      case rest =>
        obtain ⟨w5, rfl⟩ : ∃ w5 : World, w5 = wc := ⟨_, rfl⟩
        have HBK := hid hcut
        clear hcut hrun1 hrun2 a1 a2 a3 b1 hsz m2 hfr HG H1 H2 HP
        go_upto_block 4 with fail
        go_cut [22] (fun v wd => Want w5 wd n fr ((List.range fr).map f) ∧ v = .slice (some ⟨w5.heap.size, 0, none⟩) fr n)
        case first =>
          go_wp2_with fail
          go_loopw [22, 23] (fun v j wr => ∃ k : Nat, k ≤ fr ∧ j = .int .i64 k ∧ v = .slice (some ⟨w5.heap.size, 0, none⟩) k n ∧ Want w5 wr n k ((List.range k).map f)) (fun _ j _ => fr - (intOf j).toNat)
          case atStart => exact ⟨0, Nat.zero_le _, rfl, rfl, Want.start _ _ _ hn (size_madeCells _ _)⟩
          case round =>
            obtain ⟨k, hk, rfl, rfl, hw⟩ := hrel
            have HW := hid hw
            have oc := HBK.out.origc hw.below
            have hz := hw.size
            clear hw
            by_cases hlt : k < fr
            · obtain ⟨o0, o1, _, _⟩ := oc.cell (i := k) (by omega)
              clear oc m1 m3
              go_wp2_with (at_builtin; refine wpList_append_fits _ (by rfl) (.tmp 138) (.tmp 143) 26 (by rfl) w5.heap.size 31 i31 2 Yba.underlying26 G1.out G3.out w5.heap.size k n _ (by rfl) (by exact (HW.out.alloc _).own) ⟨wr.heap.size, 0, none⟩ 1 1 [.int .i32 (f k).1, .int .u8 (f k).2] (by rfl) (by rfl) (by exact World.news_of_block (heap_alloc_new _ _)) (by intro u hu; simp at hu; rcases hu with hu | hu <;> subst hu <;> rfl) (by omega) ?_)
              intro w' ho' hg'
              have HW2 := hid (HW.out.step ((Below.refl _ _).alloc (Nat.le_of_lt hz) _) ho' hg')
              clear ho' hg'
              go_wp2
              go_roundw
              case rel => exact ⟨k + 1, by omega, by go_num, rfl, by rw [range_snoc]; exact HW2.out⟩
              case measure => simp [intOf]; omega
            · have hkn : fr = k := by omega
              subst hkn
              clear oc m1 m3
              go_wp2
              go_meet
              case rel => exact ⟨HW.out, rfl⟩
        case rest =>
          obtain ⟨hw0, rfl⟩ := hcut
          have HW0 := hid hw0
          clear hw0
          go_upto_block 6 with fail
          go_cut [22] (fun v wd => Want w5 wd n (fr + cnt K (n - fr)) (outL f K fr (n - fr)) ∧ v = .slice (some ⟨w5.heap.size, 0, none⟩) (fr + cnt K (n - fr)) n)
          case first =>
            go_wp2_with fail
            go_loopw [22, 24] (fun v j wr => ∃ t : Nat, fr + t ≤ n ∧ j = .int .i64 ((fr + t : Nat) : Int) ∧ v = .slice (some ⟨w5.heap.size, 0, none⟩) (fr + cnt K t) n ∧ Want w5 wr n (fr + cnt K t) (outL f K fr t)) (fun _ j _ => n - (intOf j).toNat)
            case atStart => exact ⟨0, hfl, rfl, rfl, HW0.out⟩
            case round =>
              clear HW0
              obtain ⟨t, ht, rfl, rfl, hw⟩ := hrel
              have HW := hid hw
              have bx := HBK.out.boxc hw.below
              have bt := HBK.out.bitsc hw.below HB.out
              have oc := HBK.out.origc hw.below
              have hz := hw.size
              have hcl := cnt_le K t
              clear hw
              generalize hj : fr + t = j at ht ⊢
              generalize hq : fr + cnt K t = q at HW ⊢
              have hqj : q ≤ j := by omega
              have hjt : (j : Int) - (fr : Int) = (t : Int) := by omega
              have HJ := hid hj
              have HQ := hid hq
              clear hj hq hcl
              by_cases hlt : j < n
              · obtain ⟨o0, o1, _, _⟩ := oc.cell (i := j) hlt
                have HBT := hid bt
                clear oc m1 m3 bt
                go_wp2_with fail
                refine (keeps_any ba bn bc K t _ hbn (by have := HJ.out; omega) HBT.out).mono ?_
                rintro e w' ⟨rfl, rfl⟩
                cases hKt : K t
                · have HK := hid hKt
                  clear hKt
                  go_wp2
                  go_roundw
                  case rel => exact ⟨t + 1, by have := HJ.out; omega, by have := HJ.out; go_num, by rw [cnt_no HK.out, HQ.out], by rw [cnt_no HK.out, HQ.out, outL_no HK.out]; exact HW.out⟩
                  case measure => simp [intOf]; omega
                · have HK := hid hKt
                  clear hKt
                  go_wp2_with (at_builtin; refine wpList_append_fits _ (by rfl) (.tmp 164) (.tmp 166) 26 (by rfl) w5.heap.size 31 i31 2 Yba.underlying26 G1.out G3.out w5.heap.size q n _ (by rfl) (by exact ((HW.out.alloc _).alloc _).own) ⟨w'.heap.size + 1, 0, none⟩ 1 1 [.int .i32 (f j).1, .int .u8 (((f j).2 + 1) % 256)] (by rfl) (by rfl) (by exact World.news_of_block (heap_alloc2_new _ _ _)) (by intro u hu; simp at hu; rcases hu with hu | hu <;> subst hu <;> rfl) (by omega) ?_)
                  intro w3 ho' hg'
                  have hw2 := HW.out.step (((Below.refl _ _).alloc (Nat.le_of_lt hz) _).alloc (by simp; omega) _) ho' hg'
                  have HW2 := hid hw2
                  clear ho' hg' hw2
                  go_wp2
                  go_roundw
                  case rel => exact ⟨t + 1, by have := HJ.out; omega, by have := HJ.out; go_num, by rw [cnt_yes HK.out, ← Nat.add_assoc, HQ.out], by rw [cnt_yes HK.out, ← Nat.add_assoc, HQ.out, outL_yes HK.out, HJ.out]; exact HW2.out⟩
                  case measure => simp [intOf]; omega
              · have hjn : n = j := by omega
                subst hjn
                clear oc m1 m3 bt
                go_wp2
                go_meet
                case rel =>
                  have hnt : n - fr = t := by have := HJ.out; omega
                  rw [hnt, HQ.out]
                  exact ⟨HW.out, rfl⟩
          case rest =>
            obtain ⟨hw0, rfl⟩ := hcut
            obtain ⟨w6, rfl⟩ : ∃ w6 : World, w6 = wc := ⟨_, rfl⟩
            have HW6 := hid hw0
            obtain ⟨s0, s1, s2⟩ := HBK.out.spc hw0.below
            clear hw0 m1 m3
            have hq := cnt_le K (n - fr)
            generalize hqq : fr + cnt K (n - fr) = q at *
            have hqn : q ≤ n := by omega
            have HQQ := hid hqq
            clear hqq
            go_upto_block 8 with fail
            go_cut [] (fun wd => Want w5 wd n q (outL f K fr (n - fr)))
            case first =>
              go_wp2_with fail
              go_loopw [178] (fun i wr => ∃ k : Nat, k ≤ q ∧ i = .int .i64 k ∧ Want w5 wr n q (outL f K fr (n - fr))) (fun i _ => q - (intOf i).toNat)
              case atStart => exact ⟨0, Nat.zero_le _, rfl, HW6.out⟩
              case round =>
                clear HW6 s0 s1 s2
                obtain ⟨k, hk, rfl, hw⟩ := hrel
                have HW := hid hw
                obtain ⟨s0, s1, s2⟩ := HBK.out.spc hw.below
                by_cases hlt : k < q
                · obtain ⟨y, hy, y0, y1⟩ := HBK.out.convc hw.below hfl (i := k) (by rw [HQQ.out]; exact hlt)
                  obtain ⟨z0, z1⟩ := hw.cell hlt y hy
                  rw [HQQ.out] at s2
                  clear hw hy
                  go_wp2
                  go_quiet (fail)
                  go_wp2
                  go_roundw
                  case rel => exact ⟨k + 1, by omega, by go_num, HW.out.drewN _⟩
                  case measure => simp [intOf]; omega
                · clear hw
                  go_wp2
                  go_meet
                  case rel => exact HW.out
            case rest =>
              clear HW6 s0 s1 s2
              have hw0 := hcut
              obtain ⟨w7, rfl⟩ : ∃ w7 : World, w7 = wc := ⟨_, rfl⟩
              clear hcut
              have HB7 := hid hw0.below
              clear hw0
              obtain ⟨r, hr, hrn⟩ : ∃ r : Nat, n - fr = r ∧ (n : Int) - (fr : Int) = (r : Int) := ⟨n - fr, rfl, by omega⟩
              obtain ⟨lv, ⟨la, lc, hlv⟩, hlog⟩ := HBK.out.logc
              subst hlv
              rw [hr] at hlog
              have HLG := hid hlog
              have HR := hid hr
              have lg := (hlog w7 HB7.out).1
              clear hlog
              go_upto_block 10 with fail
              go_cut [] (fun wd => Below w5.heap.size w5 wd)
              case first =>
                clear lg
                go_wp2_with fail
                go_loopw [202] (fun i wr => ∃ k : Nat, k ≤ r ∧ i = .int .i64 k ∧ Below w5.heap.size w5 wr) (fun i _ => r - (intOf i).toNat)
                case atStart => exact ⟨0, Nat.zero_le _, rfl, HB7.out⟩
                case round =>
                  clear HB7
                  obtain ⟨k, hk, rfl, hb⟩ := hrel
                  have HBW := hid hb
                  by_cases hlt : k < r
                  · obtain ⟨lg, hl⟩ := HLG.out wr hb
                    obtain ⟨gb, _, ⟨gc, hgv⟩, lc0⟩ := hl k hlt
                    simp only [Value.slice.injEq] at hgv
                    obtain ⟨rfl, _, rfl⟩ := hgv
                    obtain ⟨o0, o1, _, _⟩ := (HBK.out.origc hb).cell (i := fr + k) (by have := HR.out; omega)
                    clear hb hl
                    go_wp2
                    go_quiet (fail)
                    go_wp2
                    go_roundw
                    case rel => exact ⟨k + 1, by omega, by go_num, below_drewN HBW.out _⟩
                    case measure => simp [intOf]; omega
                  · clear hb
                    go_wp2
                    go_meet
                    case rel => exact HBW.out
              case rest =>
                clear HB7 lg HLG HR
                obtain ⟨w8, rfl⟩ : ∃ w8 : World, w8 = wc := ⟨_, rfl⟩
                have HB8 := hid hcut
                obtain ⟨s0, s1, s2⟩ := HBK.out.spc hcut
                clear hcut s1 s2
                go_upto_block 12 with fail
                clear s0
                go_cut [] (fun wd => Below w5.heap.size w5 wd)
                case first =>
                  go_wp2_with fail
                  go_loopw [228] (fun i wr => ∃ k : Nat, k ≤ mm ∧ i = .int .i64 k ∧ Below w5.heap.size w5 wr) (fun i _ => mm - (intOf i).toNat)
                  case atStart => exact ⟨0, Nat.zero_le _, rfl, HB8.out⟩
                  case round =>
                    clear HB8
                    obtain ⟨k, hk, rfl, hb⟩ := hrel
                    have HBW := hid hb
                    by_cases hlt : k < mm
                    · obtain ⟨a0, a1, a2, _⟩ := (HBK.out.omarksc hb).cell hlt
                      obtain ⟨c0, c1, c2, _⟩ := (HBK.out.marksc hb).cell hlt
                      obtain ⟨s0, _, _⟩ := HBK.out.spc hb
                      have bx := HBK.out.boxc hb
                      have HBT := hid (HBK.out.bitsc hb HB.out)
                      have hmn := curM_le g n (k + 1)
                      generalize curM g n (k + 1) = mk at *
                      have z5 : p + 6 ≤ wr.heap.size := Nat.le_trans HBK.out.size hb.size
                      have z1 : p + 3 < wr.heap.size := by omega
                      have z2 : p + 1 < wr.heap.size := by omega
                      have z3 : w.heap.size < wr.heap.size := by omega
                      clear hb z5
                      by_cases hgt : fr < mk
                      · go_wp2_with fail
                        go_loop [31, 32] (fun c j => ∃ t : Nat, fr + t ≤ mk ∧ j = .int .i64 ((fr + t : Nat) : Int) ∧ c = .int .i64 ((fr + cnt K t : Nat) : Int)) (fun _ j => mk - (intOf j).toNat)
                        case atStart => exact ⟨0, by omega, rfl, rfl⟩
                        case round =>
                          obtain ⟨t, ht, rfl, rfl⟩ := hrel
                          have hcl := cnt_le K t
                          generalize hj : fr + t = j at ht ⊢
                          generalize hqc : fr + cnt K t = qc at ⊢
                          have hqj : qc ≤ j := by omega
                          have hjt : (j : Int) - (fr : Int) = (t : Int) := by omega
                          have HJ := hid hj
                          have HQC := hid hqc
                          clear hj hqc hcl
                          by_cases hjm : j < mk
                          · go_wp2_with fail
                            refine (keeps_any ba bn bc K t _ hbn (by have := HJ.out; omega) (HBT.out.of_heap fun b off hba hpos => Below.heap_alloc _ _ _ (HBT.out.lt hba hpos))).mono ?_
                            rintro e w' ⟨rfl, rfl⟩
                            cases hKt : K t
                            · have HK := hid hKt
                              clear hKt
                              go_wp2
                              go_round
                              case rel => exact ⟨t + 1, by have := HJ.out; omega, by have := HJ.out; go_num, by rw [cnt_no HK.out, HQC.out]⟩
                              case measure => simp [intOf]; omega
                            · have HK := hid hKt
                              clear hKt
                              go_wp2
                              go_round
                              case rel => exact ⟨t + 1, by have := HJ.out; omega, by have := HJ.out; go_num, by rw [cnt_yes HK.out]; have := HQC.out; go_num⟩
                              case measure => simp [intOf]; omega
                          · have hE : expM K fr mk = qc := by
                              have := HJ.out
                              rw [expM, if_pos hgt, show mk - fr = t by omega, HQC.out]
                            rw [hE] at c1
                            clear hE HBT
                            go_wp2
                            go_quiet (fail)
                            go_wp2
                            go_roundw
                            case rel => exact ⟨k + 1, by omega, by go_num, below_drewN (HBW.out.alloc HBW.out.size _) _⟩
                            case measure => simp [intOf]; omega
                      · have hE : expM K fr mk = mk := by rw [expM, if_neg hgt]
                        rw [hE] at c1
                        clear hE HBT
                        go_wp2
                        go_quiet (fail)
                        go_wp2
                        go_roundw
                        case rel => exact ⟨k + 1, by omega, by go_num, below_drewN (HBW.out.alloc HBW.out.size _) _⟩
                        case measure => simp [intOf]; omega
                    · clear hb
                      go_wp2
                      go_meet
                      case rel => exact HBW.out
                case rest =>
                  obtain ⟨s0, s1, s2⟩ := HBK.out.spc hcut
                  have HB9 := hid hcut
                  clear hcut
                  go_wp2
                  go_ret
                  exact ⟨rfl, HBK.out.below.trans (HB9.out.mono HBK.out.below.size)⟩
end Go.Proofs.Ybulkamzi
