import Derived.Test.YbulkamziRetainPlain
import Derived.Deep.CutBlock
import Derived.Deep.DeepCutAuto
namespace Go.Proofs.Ybulkamzi
open Go.RowKit

/-- Every mark from k on counted more than 'fr'. -/
def Above (fr : Nat) (M : Nat → Nat) (k mm : Nat) : Prop := ∀ i, k ≤ i → i < mm → fr < M i
theorem Above.down {fr : Nat} {M : Nat → Nat} {k mm : Nat} (h : Above fr M (k + 1) mm) (hk : fr < M k) : Above fr M k mm := by
  intro i h1 h2
  by_cases e : i = k
  · subst e; exact hk
  · exact h i (by omega) h2

/-- Every mark from k on counted more than j. -/
def More (j : Nat) (M : Nat → Nat) (k mm : Nat) : Prop := ∀ i, k ≤ i → i < mm → j + 1 ≤ M i
theorem more_of {fr t j k mm : Nat} {M : Nat → Nat} (hj : fr + t = j) (htodo : ∀ i, k ≤ i → i < mm → fr < M i ∧ fr + t ≤ M i) (hmono : ∀ i j, i ≤ j → j < mm → M i ≤ M j) (hne : ¬ M k = j) : More j M k mm := by
  intro i h1 h2
  have a := htodo k (Nat.le_refl _) (by omega)
  have b := hmono k i h1 h2
  omega
theorem more_step {fr t j k mm : Nat} {M : Nat → Nat} (hj : fr + t = j) (h : More j M k mm) : ∀ i, k ≤ i → i < mm → fr + (t + 1) ≤ M i := fun i h1 h2 => by have := h i h1 h2; omega
theorem drewR {B : Blk} {n mm fr : Nat} {f : Nat → Int × Int} {K : Nat → Bool} {M : Nat → Nat} {w wr : World} {t k : Nat} (h : RSt B n mm fr f K M w wr t k) : RSt B n mm fr f K M w wr.drew t k :=
  ⟨h.kept.drew, h.conv, h.marks, h.todo, h.log, h.calls, h.size⟩
theorem exp_at {K : Nat → Bool} {fr t j q m : Nat} (hj : fr + t = j) (hq : fr + cnt K t = q) (hm : m = j) (hlt : fr < m) : (expM K fr m : Int) = (q : Int) := by
  rw [expM, if_pos hlt, ← hq, hm, ← hj, Nat.add_sub_cancel_left]

theorem rst_start {B : Blk} {n mm fr : Nat} {f : Nat → Int × Int} {K : Nat → Bool} {M : Nat → Nat} {w : World} {k : Nat} (hx : Conv w B.xb n f) (hm : Marks w B.mb mm (fun i => (M i : Int))) (hl : w.heap[B.lb]? = some (.cells #[.slice none 0 0] 40 (0, 0)))
    (hq : w.heap[B.qb]? = some (.cells #[.int .i64 0] 3 (0, 0))) (hbase : B.base ≤ w.heap.size) (hab : Above fr M k mm) (hmono : ∀ i j, i ≤ j → j < mm → M i ≤ M j) (hk : k ≤ mm) (hle : 0 < k → M (k - 1) ≤ fr) : RSt B n mm fr f K M w w 0 k := by
  refine ⟨Kept.refl _ _, ⟨f, hx, ?_, fun i _ => rfl⟩, hm.congr ?_, fun i h1 h2 => ⟨hab i h1 h2, by have := hab i h1 h2; omega⟩, ⟨_, hl, World.ownsRow_nil _ _ _ _⟩, hq, hbase⟩
  · intro i hi
    simp only [cnt, Nat.add_zero] at hi
    simp [outL, hi]
  · intro i hi
    by_cases e : i < k
    · rw [if_pos e]
      have h1 := hle (by omega)
      have h2 := hmono i (k - 1) (by omega) (by omega)
      rw [expM, if_neg (by omega)]
    · rw [if_neg e]

theorem Bits.of_heap {w w' : World} {a : Option Addr} {n : Nat} {K : Nat → Bool} (h : Bits w a n K) (hk : ∀ b off, a = some ⟨b, off, none⟩ → 0 < n → w'.heap[b]? = w.heap[b]?) : Bits w' a n K := by
  refine ⟨fun i hi => ?_, h.2⟩
  obtain ⟨b, off, hba, hc⟩ := h.1 i hi
  exact ⟨b, off, hba, (World.cell?_of_block (hk b off hba (by omega))).trans hc⟩

/-- The closure's contract at retain's own call of it. -/
theorem keep_at {B : Blk} (hB : B.Ok) {n mm fr : Nat} {f : Nat → Int × Int} {K : Nat → Bool} {M : Nat → Nat} {w wc : World} {t k : Nat} (h : RSt B n mm fr f K M w wc t k) {ba : Option Addr} {bn bcap : Nat} (hbn : bn ≤ 1024) (ht : t ≤ 1024)
    (hb : w.heap[B.bb]? = some (.cells #[.slice ba bn bcap] 24 (0, 0))) (hbits : Bits w ba bn K) (d8 : ∀ b off, ba = some ⟨b, off, none⟩ → 0 < bn → b < B.base ∧ b ≠ B.xb ∧ b ≠ B.mb ∧ b ≠ B.lb ∧ b ≠ B.qb) (at' md : Int) :
    ∃ v, wc.ownsRow B.base 21 1 v t (logL f fr t) ∧ Calls Yba.prog 6 #[.pointer (some ⟨wc.heap.size, 0, none⟩), .pointer (some ⟨B.lb, 0, none⟩), .pointer (some ⟨B.qb, 0, none⟩), .pointer (some ⟨B.bb, 0, none⟩)] (wc.alloc (.cells #[.int .i32 at', .int .u8 md] 31)) fun e w' =>
      e = .returned (.bool (K t)) ∧ ∃ v', Kpost wc.heap.size B.lb B.qb B.base at' md v v' t (logL f fr t) (K t) (wc.alloc (.cells #[.int .i32 at', .int .u8 md] 31)) w' := by
  obtain ⟨v, hl, ho⟩ := h.log
  have hs := h.size
  have l0 := hB.l0
  have q0 := hB.q0
  have b0 := hB.b0
  refine ⟨v, ho, keep_any wc.heap.size B.lb B.qb B.bb B.base at' md v t (logL f fr t) ba bn bcap K _ hbn ht (heap_alloc_new _ _) ((Below.heap_alloc _ _ _ (by omega)).trans hl) ((Below.heap_alloc _ _ _ (by omega)).trans h.calls)
    ((Below.heap_alloc _ _ _ (by omega)).trans ((h.kept.block B.bb ⟨b0, hB.bx, hB.bm, hB.bl, hB.bq⟩).trans hb)) (ho.alloc _) (hbits.of_heap fun b off hba hpos => ?_) (by omega) (by omega) l0 q0 b0 hB.lq (fun e => by have := (ho.lt _ e).2; omega)
    (fun b off hba hpos => ⟨(d8 b off hba hpos).1, (d8 b off hba hpos).2.2.2.1, (d8 b off hba hpos).2.2.2.2⟩) hB.bl hB.bq hs⟩
  obtain ⟨u1, u2, u3, u4, u5⟩ := d8 b off hba hpos
  exact (Below.heap_alloc _ _ _ (by omega)).trans (h.kept.block b ⟨u1, u2, u3, u4, u5⟩)

set_option maxRecDepth 100000 in
set_option maxHeartbeats 2000000 in
theorem retain_any (B : Blk) (hB : B.Ok) (n mm fr : Nat) (f : Nat → Int × Int) (K : Nat → Bool) (M : Nat → Nat) (ba : Option Addr) (bn bcap : Nat) (last r0 r1 r2 : Value) (w : World)
    (hn : n ≤ 1024) (hmm : mm ≤ 1024) (hfr : fr ≤ n) (hM : ∀ i, i < mm → M i ≤ n) (hmono : ∀ i j, i ≤ j → j < mm → M i ≤ M j) (hbn : bn ≤ 1024)
    (hsb : w.heap[B.sb]? = some (.cells #[.slice (some ⟨B.mb, 0, none⟩) mm mm, last, .slice (some ⟨B.xb, 0, none⟩) n n, r0, r1, r2] 39 (0, 0)))
    (hx : Conv w B.xb n f) (hm : Marks w B.mb mm (fun i => (M i : Int))) (hl : w.heap[B.lb]? = some (.cells #[.slice none 0 0] 40 (0, 0))) (hq : w.heap[B.qb]? = some (.cells #[.int .i64 0] 3 (0, 0)))
    (hb : w.heap[B.bb]? = some (.cells #[.slice ba bn bcap] 24 (0, 0))) (hbits : Bits w ba bn K) (d8 : ∀ b off, ba = some ⟨b, off, none⟩ → 0 < bn → b < B.base ∧ b ≠ B.xb ∧ b ≠ B.mb ∧ b ≠ B.lb ∧ b ≠ B.qb) (hbase : B.base ≤ w.heap.size) :
    Calls Yba.prog 8 #[.pointer (some ⟨B.sb, 0, none⟩), .int .i64 fr, .func (.func 6) #[] #[.pointer (some ⟨B.lb, 0, none⟩), .pointer (some ⟨B.qb, 0, none⟩), .pointer (some ⟨B.bb, 0, none⟩)]] w fun e w' =>
      e = .returned (.tuple #[]) ∧ ∃ wr, RSt B n mm fr f K M w wr (n - fr) mm ∧ w' = wr.setCell ⟨B.sb, 2, none⟩ (.slice (some ⟨B.xb, 0, none⟩) (fr + cnt K (n - fr)) n) := by
  have s0 : w.cell? ⟨B.sb, 0, none⟩ = some (.slice (some ⟨B.mb, 0, none⟩) mm mm) := by rw [cell_of_row _ _ _ _ _ _ hsb]; rfl
  have s2 : w.cell? ⟨B.sb, 2, none⟩ = some (.slice (some ⟨B.xb, 0, none⟩) n n) := by rw [cell_of_row _ _ _ _ _ _ hsb]; rfl
  have HM := hid hM
  have HO := hid hmono
  have HX := hid hx
  have HMK := hid hm
  clear hM hmono hx hm
  have HSB := hid hsb
  have HL := hid hl
  have HQ := hid hq
  have HB := hid hb
  have HI := hid hbits
  have H8 := hid d8
  have HBO := hid hB
  clear hsb hl hq hb hbits d8 hB
  go_enter Yba.func8, Yba.ntmps8
  go_upto_block 0 with fail
  go_cut [6] (fun s wc => ∃ k : Nat, k ≤ mm ∧ s = .int .i64 k ∧ RSt B n mm fr f K M w wc 0 k)
  case first =>
    go_wp2_with fail
    go_loop [6] (fun s => ∃ k : Nat, k ≤ mm ∧ s = .int .i64 k ∧ Above fr M k mm) (fun s => (intOf s).toNat)
    case atStart => exact ⟨mm, Nat.le_refl _, rfl, fun i h1 h2 => absurd h1 (by omega)⟩
    case round =>
      obtain ⟨k, hk, rfl, hab⟩ := hrel
      have HAB := hid hab
      clear hab
      by_cases hc : 0 < k ∧ fr < M (k - 1)
      · obtain ⟨hk0, hlt⟩ := hc
        obtain ⟨k, rfl⟩ : ∃ k', k = k' + 1 := ⟨k - 1, by omega⟩
        simp only [Nat.add_sub_cancel] at hlt
        have c1 := (HMK.out.cell (i := k) (by omega)).2.1
        go_wp2
        go_round
        case rel => exact ⟨k, by omega, by go_num, HAB.out.down hlt⟩
        case measure => simp [intOf]
      · have hst : RSt B n mm fr f K M w w 0 k := rst_start HX.out HMK.out HL.out HQ.out hbase HAB.out HO.out hk (fun h => by omega)
        by_cases hk0 : 0 < k
        · have hle : ¬ fr < M (k - 1) := fun h => hc ⟨hk0, h⟩
          obtain ⟨k, rfl⟩ : ∃ k', k = k' + 1 := ⟨k - 1, by omega⟩
          simp only [Nat.add_sub_cancel] at hle
          have c1 := (HMK.out.cell (i := k) (by omega)).2.1
          clear hc
          have HST := hid hst
          clear hst
          go_wp2
          go_meet
          case rel => exact ⟨k + 1, hk, by go_num, HST.out⟩
        · clear hc
          have HST := hid hst
          clear hst
          go_wp2
          go_meet
          case rel => exact ⟨k, hk, rfl, HST.out⟩
  case rest =>
    obtain ⟨k0, hk0, rfl, hst0⟩ := hcut
    have HST0 := hid hst0
    clear hst0
    go_wp2_with fail
    go_loopw [6, 7, 8] (fun a b c wr => ∃ t k : Nat, fr + t ≤ n ∧ k ≤ mm ∧ a = .int .i64 k ∧ b = .int .i64 ((fr + cnt K t : Nat) : Int) ∧ c = .int .i64 ((fr + t : Nat) : Int) ∧ RSt B n mm fr f K M w wr t k) (fun _ _ c _ => n - (intOf c).toNat)
    case atStart => exact ⟨0, k0, hfr, hk0, rfl, rfl, rfl, HST0.out⟩
    case round =>
      obtain ⟨t, k, ht, hk, rfl, rfl, rfl, hst⟩ := hrel
      have HST := hid hst
      have x0 := (World.cell?_of_block (hst.kept.block B.sb ⟨HBO.out.s0, HBO.out.sx, HBO.out.sm, HBO.out.sl, HBO.out.sq⟩)).trans s0
      have x2 := (World.cell?_of_block (hst.kept.block B.sb ⟨HBO.out.s0, HBO.out.sx, HBO.out.sm, HBO.out.sl, HBO.out.sq⟩)).trans s2
      clear hst
      have hcl := cnt_le K t
      generalize hj : fr + t = j at ht ⊢
      generalize hq : fr + cnt K t = q at ⊢
      have hqj : q ≤ j := by omega
      have hfj : fr ≤ j := by omega
      have HJ := hid hj
      have HQ' := hid hq
      clear hj hq hcl
      by_cases hlt : j < n
      · go_upto_block 4 with fail
        go_cut [6] (fun s wc => ∃ k' : Nat, k' ≤ mm ∧ s = .int .i64 k' ∧ RSt B n mm fr f K M w wc t k' ∧ More j M k' mm)
        case first =>
          clear x0 x2
          go_wp2_with fail
          go_loopw [6] (fun s wi => ∃ k' : Nat, k' ≤ mm ∧ s = .int .i64 k' ∧ RSt B n mm fr f K M w wi t k') (fun s _ => mm - (intOf s).toNat)
          case atStart => exact ⟨k, hk, rfl, HST.out⟩
          case round =>
            clear HST
            obtain ⟨k', hk', rfl, hst⟩ := hrel
            have x0 := (World.cell?_of_block (hst.kept.block B.sb ⟨HBO.out.s0, HBO.out.sx, HBO.out.sm, HBO.out.sl, HBO.out.sq⟩)).trans s0
            have HST := hid hst
            clear hst
            by_cases hkm : k' < mm
            · obtain ⟨m0, m1, m2, f0, f1, f2⟩ := HST.out.marks.cell hkm
              rw [if_neg (Nat.lt_irrefl _)] at m1
              clear m0 m2 f0 f2
              by_cases hc : M k' = j
              · have e1 : ((M k' : Int) == (j : Int)) = true := by simp [hc]
                have HC := hid hc
                clear hc
                go_wp2
                go_roundw
                case rel => exact ⟨k' + 1, by omega, by go_num, HST.out.mark HBO.out hkm _ (exp_at HJ.out HQ'.out HC.out (HST.out.todo k' (Nat.le_refl _) hkm).1)⟩
                case measure => simp [intOf]; omega
              · have e1 : ((M k' : Int) == (j : Int)) = false := by simp; omega
                have HC := hid hc
                clear hc
                go_wp2
                go_meet
                case rel => exact ⟨k', hk', rfl, HST.out, more_of HJ.out HST.out.todo HO.out HC.out⟩
            · go_wp2
              go_meet
              case rel => exact ⟨k', hk', rfl, HST.out, fun i h1 h2 => absurd h1 (by omega)⟩
        case rest =>
          obtain ⟨k', hk', rfl, hst, hmore⟩ := hcut
          clear x0 x2 HST
          have HST := hid hst
          have HMO := hid hmore
          have x2 := (World.cell?_of_block (hst.kept.block B.sb ⟨HBO.out.s0, HBO.out.sx, HBO.out.sm, HBO.out.sl, HBO.out.sq⟩)).trans s2
          obtain ⟨f', hcv, hpre, hsuf⟩ := hst.conv
          obtain ⟨y0, y1, y2, y3⟩ := hcv.cell (i := j) hlt
          rw [hsuf j (by have := HJ.out; omega)] at y0 y1
          clear hst hmore hcv hpre hsuf y2 y3
          obtain ⟨v, ho, hkeep⟩ := keep_at HBO.out HST.out hbn (by have := HJ.out; omega) HB.out HI.out H8.out (f j).1 (f j).2
          have HK := hid hkeep
          have HOW := hid ho
          clear hkeep ho
          go_wp2_with fail
          refine HK.out.mono ?_
          rintro e w2 ⟨rfl, v', hp⟩
          clear HK
          cases hKt : K t
          · rw [hKt] at hp
            have hst2 := HST.out.stepNo HBO.out HOW.out (more_step HJ.out HMO.out) hKt (by rw [HJ.out]) hp
            have HST2 := hid hst2
            have hKt' := hid hKt
            clear hst2 hp hKt
            go_wp2
            go_roundw
            case rel => exact ⟨t + 1, k', by have := HJ.out; omega, hk', rfl, by rw [cnt_no hKt'.out, HQ'.out], by have := HJ.out; go_num, HST2.out⟩
            case measure => simp [intOf]; omega
          · rw [hKt] at hp
            have hst2 := HST.out.stepYes HBO.out HOW.out (more_step HJ.out HMO.out) hKt (by rw [HJ.out]) (by rw [HJ.out]) (by have := HJ.out; omega) hp
            rw [HQ'.out] at hst2
            have HST2 := hid hst2
            have hKt' := hid hKt
            obtain ⟨a1, a2, a3, a4, a5, a6, a7⟩ := HST.out.no HBO.out HOW.out (more_step HJ.out HMO.out) true (by rw [HJ.out]) hp
            have x2b := (World.cell?_of_block (a1.block B.sb ⟨HBO.out.s0, HBO.out.sx, HBO.out.sm, HBO.out.sl, HBO.out.sq⟩)).trans s2
            have pc := hp.c
            simp only [if_true] at pc
            have c0 : w2.cell? ⟨wc.heap.size, 0, none⟩ = some (.int .i32 (f j).1) := by rw [cell_of_row _ _ _ _ _ _ pc]; rfl
            have c1 : w2.cell? ⟨wc.heap.size, 1, none⟩ = some (.int .u8 (((f j).2 + 1) % 256)) := by rw [cell_of_row _ _ _ _ _ _ pc]; rfl
            obtain ⟨f'', hcv, _, _⟩ := HST.out.conv
            obtain ⟨z0, z1, z2, z3⟩ := (a2 f'' hcv).cell (i := q) (by omega)
            clear a1 a2 a3 a4 a5 a6 a7 hst2 hp pc hcv hKt
            go_wp2
            go_region
            go_wp2
            go_roundw
            case rel => exact ⟨t + 1, k', by have := HJ.out; omega, hk', rfl, by rw [cnt_yes hKt'.out]; have := HQ'.out; go_num, by have := HJ.out; go_num, drewR HST2.out⟩
            case measure => simp [intOf]; omega
      · have hjn : n = j := by omega
        subst hjn
        go_wp2_with fail
        clear x0 x2
        go_loopw [6] (fun s wi => ∃ k' : Nat, k' ≤ mm ∧ s = .int .i64 k' ∧ RSt B n mm fr f K M w wi t k') (fun s _ => mm - (intOf s).toNat)
        case atStart => exact ⟨k, hk, rfl, HST.out⟩
        case round =>
          clear HST
          obtain ⟨k', hk', rfl, hst⟩ := hrel
          have hsbk := (hst.kept.block B.sb ⟨HBO.out.s0, HBO.out.sx, HBO.out.sm, HBO.out.sl, HBO.out.sq⟩).trans HSB.out
          have x0 : wr.cell? ⟨B.sb, 0, none⟩ = some (.slice (some ⟨B.mb, 0, none⟩) mm mm) := by rw [cell_of_row _ _ _ _ _ _ hsbk]; rfl
          have x2 : wr.cell? ⟨B.sb, 2, none⟩ = some (.slice (some ⟨B.xb, 0, none⟩) n n) := by rw [cell_of_row _ _ _ _ _ _ hsbk]; rfl
          have x3 : wr.frozen? ⟨B.sb, 2, none⟩ = false := frozen_of_row _ _ _ _ _ hsbk
          clear hsbk
          have HST := hid hst
          clear hst
          by_cases hkm : k' < mm
          · obtain ⟨m0, m1, m2, f0, f1, f2⟩ := HST.out.marks.cell hkm
            clear m0 m2 f0 f2
            have HC : Hid (M k' = n) := by
              have a := (HST.out.todo k' (Nat.le_refl _) hkm).2
              have b := HM.out k' hkm
              have c := HJ.out
              show M k' = n
              omega
            go_wp2
            go_roundw
            case rel => exact ⟨k' + 1, by omega, by go_num, HST.out.mark HBO.out hkm _ (exp_at HJ.out HQ'.out HC.out (HST.out.todo k' (Nat.le_refl _) hkm).1)⟩
            case measure => simp [intOf]; omega
          · have hkk : k' = mm := by omega
            subst hkk
            go_wp2
            go_end0
            refine ⟨rfl, wr, ?_, ?_⟩
            · have hnt : n - fr = t := by have := HJ.out; omega
              rw [hnt]; exact HST.out
            · have hnt : n - fr = t := by have := HJ.out; omega
              rw [hnt, HQ'.out]
end Go.Proofs.Ybulkamzi
