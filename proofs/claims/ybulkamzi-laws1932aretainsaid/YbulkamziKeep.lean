import Derived.Test.YbulkamziMem
import Derived.Deep.RegionLaw
import Derived.Deep.AppendLies
import Derived.Deep.DrawnRows
import Derived.BigRegion
namespace Go.Proofs.Ybulkamzi
open Go.RowKit
attribute [local go_sem ↓] Go.wp_at_zero Go.wp_at_succ

theorem Yba.info21 : (Yba.prog.info? 21).map (fun i => (i.zero, i.size, i.bytes)) = some (some (.int .i32 0), 1, 4) := by kernel_rfl

theorem grown_cell_at {w w' : World} {row : Option Nat} (hg : w.grownBy w' row) {a : Addr} {v : Value} (h : w.cell? a = some v) (hne : some a.block ≠ row) : w'.cell? a = some v :=
  (hg.cell_far a (block_lt_of_cell h) hne).trans h
theorem grown_frozen_at {w w' : World} {row : Option Nat} (hg : w.grownBy w' row) {a : Addr} (h : w.frozen? a = false) (hl : a.block < w.heap.size) (hne : some a.block ≠ row) : w'.frozen? a = false :=
  (hg.frozen_far a hl hne).trans h

/-- What the closure leaves. -/
structure Kpost (cb lb qb base : Nat) (at' md : Int) (v v' : Value) (n : Nat) (ks : List Value) (k : Bool) (w w' : World) : Prop where
  c : w'.heap[cb]? = some (.cells #[.int .i32 at', .int .u8 (if k then (md + 1) % 256 else md)] 31 (0, 0))
  log : w'.heap[lb]? = some (.cells #[v'] 40 (0, 0))
  calls : w'.heap[qb]? = some (.cells #[.int .i64 ((n : Int) + 1)] 3 (0, 0))
  own : w'.ownsRow base 21 1 v' (n + 1) (ks ++ [.int .i32 at'])
  kept : Kept (fun k => k < w.heap.size ∧ k ≠ cb ∧ k ≠ lb ∧ k ≠ qb ∧ v.ownBlock ≠ some k) w w'

/-- The world behind 'log = append(log, c.at)'. -/
theorem log_world {w w1 : World} {o : Obj} {lb base g n m cap : Nat} {v x : Value} {xs : List Value} (hg : (w.alloc o).drew.grownBy w1 v.ownBlock) (hlb : w.heap[lb]? = some (.cells #[x] 40 (0, 0))) (nv : v.ownBlock ≠ some lb) (hown : w1.ownsRow base 21 1 (.slice (some ⟨g, 0, none⟩) n cap) m xs) (hb : lb < base) :
    (w1.setCell ⟨lb, 0, none⟩ (.slice (some ⟨g, 0, none⟩) n cap)).heap[lb]? = some (.cells #[.slice (some ⟨g, 0, none⟩) n cap] 40 (0, 0)) ∧
    (∀ k, k < w.heap.size → k ≠ lb → v.ownBlock ≠ some k → (w1.setCell ⟨lb, 0, none⟩ (.slice (some ⟨g, 0, none⟩) n cap)).heap[k]? = w.heap[k]?) ∧
    (w1.setCell ⟨lb, 0, none⟩ (.slice (some ⟨g, 0, none⟩) n cap)).ownsRow base 21 1 (.slice (some ⟨g, 0, none⟩) n cap) m xs ∧
    Kept (fun k => k < w.heap.size ∧ k ≠ lb ∧ v.ownBlock ≠ some k) w (w1.setCell ⟨lb, 0, none⟩ (.slice (some ⟨g, 0, none⟩) n cap)) := by
  have hl := lt_of_heap hlb
  have blk : ∀ k, k < w.heap.size → v.ownBlock ≠ some k → w1.heap[k]? = w.heap[k]? := fun k hk hne => (hg.block k (by simp; omega) (Ne.symm hne)).trans (Below.heap_alloc _ _ _ hk)
  have e1 := heap_setCell_same w1 lb 0 #[x] 40 (.slice (some ⟨g, 0, none⟩) n cap) ((blk lb hl nv).trans hlb)
  have e2 : ∀ k, k < w.heap.size → k ≠ lb → v.ownBlock ≠ some k → (w1.setCell ⟨lb, 0, none⟩ (.slice (some ⟨g, 0, none⟩) n cap)).heap[k]? = w.heap[k]? := fun k hk h1 h2 => (heap_setCell_other _ ⟨lb, 0, none⟩ k _ h1).trans (blk k hk h2)
  refine ⟨e1, e2, ownsRow_setCell_below hown hb _, ⟨hg.os, hg.tape, hg.output, ?_, fun k hk => e2 k hk.1 hk.2.1 hk.2.2⟩⟩
  have := hg.size
  simp at this ⊢; omega

/-- A store into a block of another element type leaves an owned row owned. -/
theorem ownsRow_setCell_type {w : World} {base : Nat} {e t : TypeId} {size : Nat} {v : Value} {n : Nat} {xs : List Value} {b : Nat} {c : Array Value} (h : w.ownsRow base e size v n xs) (hb : w.heap[b]? = some (.cells c t (0, 0))) (ht : e ≠ t) (j : Nat) (u : Value) :
    (w.setCell ⟨b, j, none⟩ u).ownsRow base e size v n xs := by
  obtain ⟨h1, h2⟩ := h
  refine ⟨h1, ?_⟩
  rcases h2 with h2 | ⟨g, cap, cur, hv, hg, hh, r⟩
  · exact Or.inl h2
  · refine Or.inr ⟨g, cap, cur, hv, hg, ?_, r⟩
    rw [heap_setCell_other _ ⟨b, j, none⟩ g _ ?_]
    · exact hh
    · intro e2
      have e3 : g = b := e2
      subst e3
      rw [hh] at hb
      simp only [Option.some.injEq, Obj.cells.injEq] at hb
      exact ht hb.2.1

theorem kpost_no {cb lb qb base n : Nat} {at' md : Int} {v v' : Value} {ks : List Value} {w W : World} (e1 : W.heap[lb]? = some (.cells #[v'] 40 (0, 0))) (x1 : W.heap[cb]? = some (.cells #[.int .i32 at', .int .u8 md] 31 (0, 0)))
    (q1 : (W.setCell ⟨qb, 0, none⟩ (.int .i64 ((n : Int) + 1))).heap[qb]? = some (.cells #[.int .i64 ((n : Int) + 1)] 3 (0, 0))) (e3 : W.ownsRow base 21 1 v' (n + 1) (ks ++ [.int .i32 at'])) (e4 : Kept (fun k => k < w.heap.size ∧ k ≠ lb ∧ v.ownBlock ≠ some k) w W)
    (d2 : cb ≠ qb) (d4 : qb < base) (d6 : lb ≠ qb) : Kpost cb lb qb base at' md v v' n ks false w (W.setCell ⟨qb, 0, none⟩ (.int .i64 ((n : Int) + 1))) := by
  refine ⟨?_, ?_, q1, ownsRow_setCell_below e3 d4 _, ?_⟩
  · rw [heap_setCell_other _ ⟨qb, 0, none⟩ cb _ d2]; exact x1
  · rw [heap_setCell_other _ ⟨qb, 0, none⟩ lb _ d6]; exact e1
  · exact (e4.mono fun k hk => ⟨hk.1, hk.2.2.1, hk.2.2.2.2⟩).setCell (fun hk => hk.2.2.2.1 rfl) _

theorem kpost_yes {cb lb qb base n : Nat} {at' md : Int} {v v' : Value} {ks : List Value} {w W : World} (h : Kpost cb lb qb base at' md v v' n ks false w W) (d1 : cb ≠ lb) (d2 : cb ≠ qb) :
    Kpost cb lb qb base at' md v v' n ks true w (W.setCell ⟨cb, 1, none⟩ (.int .u8 ((md + 1) % 256))) := by
  have hc := h.c
  simp only [Bool.false_eq_true, if_false] at hc
  refine ⟨?_, ?_, ?_, ownsRow_setCell_type h.own hc (by decide) _ _, ?_⟩
  · rw [heap_setCell_same _ _ _ _ _ _ hc]; rfl
  · rw [heap_setCell_other _ ⟨cb, 1, none⟩ lb _ (Ne.symm d1)]; exact h.log
  · rw [heap_setCell_other _ ⟨cb, 1, none⟩ qb _ (Ne.symm d2)]; exact h.calls
  · exact h.kept.setCell (fun hk => hk.2.1 rfl) _

set_option maxHeartbeats 1000000 in
theorem keep_any (cb lb qb bb base : Nat) (at' md : Int) (v : Value) (n : Nat) (ks : List Value) (ba : Option Addr) (bn bcap : Nat) (KB : Nat → Bool) (w : World) (hbn : bn ≤ 1024) (hn : n ≤ 1024)
    (hcb : w.heap[cb]? = some (.cells #[.int .i32 at', .int .u8 md] 31 (0, 0))) (hlb : w.heap[lb]? = some (.cells #[v] 40 (0, 0))) (hqb : w.heap[qb]? = some (.cells #[.int .i64 n] 3 (0, 0)))
    (hbb : w.heap[bb]? = some (.cells #[.slice ba bn bcap] 24 (0, 0))) (hown : w.ownsRow base 21 1 v n ks) (hbits : Bits w ba bn KB)
    (d1 : cb ≠ lb) (d2 : cb ≠ qb) (d3 : lb < base) (d4 : qb < base) (d5 : bb < base) (d6 : lb ≠ qb) (d7 : v.ownBlock ≠ some cb) (d8 : ∀ b off, ba = some ⟨b, off, none⟩ → 0 < bn → b < base ∧ b ≠ lb ∧ b ≠ qb) (d9 : bb ≠ lb) (d10 : bb ≠ qb) (d11 : base ≤ cb) :
    Calls Yba.prog 6 #[.pointer (some ⟨cb, 0, none⟩), .pointer (some ⟨lb, 0, none⟩), .pointer (some ⟨qb, 0, none⟩), .pointer (some ⟨bb, 0, none⟩)] w fun e w' => e = .returned (.bool (KB n)) ∧ ∃ v', Kpost cb lb qb base at' md v v' n ks (KB n) w w' := by
  obtain ⟨i21, g1, g2, g3, g4⟩ := info_parts Yba.info21
  have c1 : w.cell? ⟨lb, 0, none⟩ = some v := by rw [cell_of_row _ _ _ _ _ _ hlb]; rfl
  have c2 : w.cell? ⟨cb, 0, none⟩ = some (.int .i32 at') := by rw [cell_of_row _ _ _ _ _ _ hcb]; rfl
  have c3 : w.frozen? ⟨lb, 0, none⟩ = false := frozen_of_row _ _ _ _ _ hlb
  have l1 := lt_of_heap hlb
  have l2 := lt_of_heap hcb
  have nv : v.ownBlock ≠ some lb := fun e => by have := (hown.lt lb e).1; omega
  have fa : ∀ o, (w.alloc o).frozen? ⟨lb, 0, none⟩ = false := fun o => by rw [World.frozen?_alloc_past _ _ _ l1]; exact c3
  have ca1 : ∀ o, (w.alloc o).cell? ⟨lb, 0, none⟩ = some v := fun o => by rw [World.cell?_alloc_past _ _ _ l1]; exact c1
  have ca2 : ∀ o, (w.alloc o).cell? ⟨cb, 0, none⟩ = some (.int .i32 at') := fun o => by rw [World.cell?_alloc_past _ _ _ l2]; exact c2
  have HO := hid hown
  have HL := hid hlb
  have HC := hid hcb
  have HQ := hid hqb
  have HB := hid hbb
  have HI := hid hbits
  clear hown hlb hcb hqb hbb hbits
  go_enter Yba.func6, Yba.ntmps6
  go_wp2
  go_region_law ((refine step_append_lies _ (by rfl) _ _ _ (by rfl) base 21 i21 (.int .i32 0) 1 4 Yba.underlying40 g1 g2 g3 g4 rfl (by omega) v n ks (by rfl) (by exact (HO.out).alloc _) ⟨w.heap.size, 0, none⟩ 1 1 [.int .i32 at'] (by rfl) (by rfl) (by exact World.news_of_block (heap_alloc_new _ _)) (by intro u hu; simp at hu; subst hu; rfl) (by omega) (by unfold maxLen; omega) (by omega) (by simp; omega) (w.heap.size + 1) (by simp) ?_; intro g cap w1 hown1 hgrow hat hlt; have k1 := grown_cell_at hgrow (show World.cell? (World.drew _) ⟨lb, 0, none⟩ = some v from ca1 _) (Ne.symm nv); have k2 := grown_cell_at hgrow (show World.cell? (World.drew _) ⟨cb, 0, none⟩ = some (.int .i32 at') from ca2 _) (Ne.symm d7); have k3 := grown_frozen_at hgrow (show World.frozen? (World.drew _) ⟨lb, 0, none⟩ = false from fa _) (by simp; omega) (Ne.symm nv)))
  all_goals
    obtain ⟨e1, e2, e3, e4⟩ := log_world hgrow HL.out nv hown1 d3
    clear hgrow hown1 hat hlt k1 k2 k3
    generalize w1.setCell ⟨lb, 0, none⟩ (.slice (some ⟨g, 0, none⟩) (n + 1) cap) = W at *
    have nq : v.ownBlock ≠ some qb := fun e => by have := (HO.out.lt qb e).1; omega
    have nb : v.ownBlock ≠ some bb := fun e => by have := (HO.out.lt bb e).1; omega
    have q1 := (e2 qb (lt_of_heap HQ.out) (Ne.symm d6) nq).trans HQ.out
    have b1 := (e2 bb (lt_of_heap HB.out) d9 nb).trans HB.out
    have x1 := (e2 cb l2 d1 d7).trans HC.out
    have hbits : Bits W ba bn KB := by
      refine ⟨fun i hi => ?_, HI.out.2⟩
      obtain ⟨b, off, hba, hc⟩ := HI.out.1 i hi
      obtain ⟨u1, u2, u3⟩ := d8 b off hba (by omega)
      exact ⟨b, off, hba, (World.cell?_of_block (e2 b (block_lt_of_cell hc) u2 (fun e => by have := (HO.out.lt b e).1; omega))).trans hc⟩
    have E2 := hid e2
    have E3 := hid e3
    have E4 := hid e4
    have cq : W.cell? ⟨qb, 0, none⟩ = some (.int .i64 n) := by rw [cell_of_row _ _ _ _ _ _ q1]; rfl
    have fq : W.frozen? ⟨qb, 0, none⟩ = false := frozen_of_row _ _ _ _ _ q1
    have cb' : W.cell? ⟨bb, 0, none⟩ = some (.slice ba bn bcap) := by rw [cell_of_row _ _ _ _ _ _ b1]; rfl
    have cc : W.cell? ⟨cb, 1, none⟩ = some (.int .u8 md) := by rw [cell_of_row _ _ _ _ _ _ x1]; rfl
    have fc : W.frozen? ⟨cb, 1, none⟩ = false := frozen_of_row _ _ _ _ _ x1
    clear e2 e3 e4 ca1 ca2 fa c1 c2 c3
    have hbits2 : Bits (W.setCell ⟨qb, 0, none⟩ (.int .i64 ((n : Int) + 1))) ba bn KB := by
      refine ⟨fun i hi => ?_, hbits.2⟩
      obtain ⟨b, off, hba, hc⟩ := hbits.1 i hi
      obtain ⟨u1, u2, u3⟩ := d8 b off hba (by omega)
      exact ⟨b, off, hba, by rw [World.cell?_setCell_other _ _ _ _ (by intro h; injection h with h1; exact u3 h1.symm)]; exact hc⟩
    clear hbits
    have H2 := hid hbits2
    clear hbits2
    have q2 := heap_setCell_same _ _ 0 _ _ (.int .i64 ((n : Int) + 1)) q1
    have o2 : ∀ k, k ≠ qb → (W.setCell ⟨qb, 0, none⟩ (.int .i64 ((n : Int) + 1))).heap[k]? = W.heap[k]? := fun k hk => heap_setCell_other _ ⟨qb, 0, none⟩ k _ hk
    have O2 := hid o2
    have Q2 := hid q2
    have X1 := hid x1
    clear o2 q2 x1 q1 b1
    have E1 := hid e1
    clear e1
    go_wp2_with fail
    refine (keeps_any ba bn bcap KB n _ hbn hn H2.out).mono ?_
    rintro e w' ⟨rfl, rfl⟩
    by_cases hk : KB n = true
    · rw [hk]
      go_wp2
      go_ret
      refine ⟨by rw [hk]; rfl, .slice (some ⟨g, 0, none⟩) (n + 1) cap, ?_⟩
      rw [hk]
      exact kpost_yes (kpost_no E1.out X1.out Q2.out E3.out E4.out d2 d4 d6) d1 d2
    · have hk' : KB n = false := by simpa using hk
      rw [hk']
      go_wp2
      go_ret
      refine ⟨by rw [hk']; rfl, .slice (some ⟨g, 0, none⟩) (n + 1) cap, ?_⟩
      rw [hk']
      exact kpost_no E1.out X1.out Q2.out E3.out E4.out d2 d4 d6
end Go.Proofs.Ybulkamzi
