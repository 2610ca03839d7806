import Derived.Test.YbulkamziKeep
namespace Go.Proofs.Ybulkamzi
open Go.RowKit

/-- How many of the first t bits are set. -/
def cnt (K : Nat → Bool) : Nat → Nat
  | 0 => 0
  | t + 1 => if K t = true then cnt K t + 1 else cnt K t
theorem cnt_le (K : Nat → Bool) (t : Nat) : cnt K t ≤ t := by
  induction t with
  | zero => exact Nat.le_refl _
  | succ t ih => simp only [cnt]; split <;> omega
theorem cnt_yes {K : Nat → Bool} {t : Nat} (h : K t = true) : cnt K (t + 1) = cnt K t + 1 := by simp [cnt, h]
theorem cnt_no {K : Nat → Bool} {t : Nat} (h : K t = false) : cnt K (t + 1) = cnt K t := by simp [cnt, h]

/-- The conversions that stay: those below 'fr', then each kept one with its mode raised. -/
def outL (f : Nat → Int × Int) (K : Nat → Bool) (fr : Nat) : Nat → List (Int × Int)
  | 0 => (List.range fr).map f
  | t + 1 => if K t = true then outL f K fr t ++ [((f (fr + t)).1, ((f (fr + t)).2 + 1) % 256)] else outL f K fr t
theorem outL_yes {f : Nat → Int × Int} {K : Nat → Bool} {fr t : Nat} (h : K t = true) : outL f K fr (t + 1) = outL f K fr t ++ [((f (fr + t)).1, ((f (fr + t)).2 + 1) % 256)] := by simp [outL, h]
theorem outL_no {f : Nat → Int × Int} {K : Nat → Bool} {fr t : Nat} (h : K t = false) : outL f K fr (t + 1) = outL f K fr t := by simp [outL, h]
theorem outL_length (f : Nat → Int × Int) (K : Nat → Bool) (fr t : Nat) : (outL f K fr t).length = fr + cnt K t := by
  induction t with
  | zero => simp [outL, cnt]
  | succ t ih =>
    cases h : K t
    · rw [outL_no h, cnt_no h, ih]
    · rw [outL_yes h, cnt_yes h, List.length_append, ih]; simp; omega

/-- What a mark that counted m conversions counts in the end. -/
def expM (K : Nat → Bool) (fr m : Nat) : Nat := if fr < m then fr + cnt K (m - fr) else m

/-- What the closure has logged after t calls. -/
def logL (f : Nat → Int × Int) (fr : Nat) : Nat → List Value
  | 0 => []
  | t + 1 => logL f fr t ++ [.int .i32 (f (fr + t)).1]
theorem logL_length (f : Nat → Int × Int) (fr t : Nat) : (logL f fr t).length = t := by
  induction t with
  | zero => rfl
  | succ t ih => simp [logL, ih]
theorem logL_get (f : Nat → Int × Int) (fr t i : Nat) (h : i < t) : (logL f fr t)[i]? = some (.int .i32 (f (fr + i)).1) := by
  induction t with
  | zero => omega
  | succ t ih =>
    simp only [logL]
    rcases Nat.lt_or_ge i t with h' | h'
    · rw [List.getElem?_append_left (by rw [logL_length]; exact h'), ih h']
    · have : i = t := by omega
      subst this
      rw [List.getElem?_append_right (by rw [logL_length]; exact Nat.le_refl _), logL_length]; simp

/-- The blocks that retain works on. -/
structure Blk where
  sb : Nat
  xb : Nat
  mb : Nat
  lb : Nat
  qb : Nat
  bb : Nat
  base : Nat
/-- They are apart, and lie below the base. -/
structure Blk.Ok (B : Blk) : Prop where
  sx : B.sb ≠ B.xb
  sm : B.sb ≠ B.mb
  sl : B.sb ≠ B.lb
  sq : B.sb ≠ B.qb
  xm : B.xb ≠ B.mb
  xl : B.xb ≠ B.lb
  xq : B.xb ≠ B.qb
  ml : B.mb ≠ B.lb
  mq : B.mb ≠ B.qb
  lq : B.lb ≠ B.qb
  bx : B.bb ≠ B.xb
  bm : B.bb ≠ B.mb
  bl : B.bb ≠ B.lb
  bq : B.bb ≠ B.qb
  s0 : B.sb < B.base
  x0 : B.xb < B.base
  m0 : B.mb < B.base
  l0 : B.lb < B.base
  q0 : B.qb < B.base
  b0 : B.bb < B.base

/-- After t rounds, k marks done. -/
structure RSt (B : Blk) (n mm fr : Nat) (f : Nat → Int × Int) (K : Nat → Bool) (M : Nat → Nat) (w wr : World) (t k : Nat) : Prop where
  kept : Kept (fun b => b < B.base ∧ b ≠ B.xb ∧ b ≠ B.mb ∧ b ≠ B.lb ∧ b ≠ B.qb) w wr
  conv : ∃ f', Conv wr B.xb n f' ∧ (∀ i, i < fr + cnt K t → (outL f K fr t)[i]? = some (f' i)) ∧ ∀ i, fr + t ≤ i → f' i = f i
  marks : Marks wr B.mb mm (fun i => if i < k then (expM K fr (M i) : Int) else (M i : Int))
  todo : ∀ i, k ≤ i → i < mm → fr < M i ∧ fr + t ≤ M i
  log : ∃ v, wr.heap[B.lb]? = some (.cells #[v] 40 (0, 0)) ∧ wr.ownsRow B.base 21 1 v t (logL f fr t)
  calls : wr.heap[B.qb]? = some (.cells #[.int .i64 t] 3 (0, 0))
  size : B.base ≤ wr.heap.size

/-- One mark is set. -/
theorem RSt.mark {B : Blk} {n mm fr : Nat} {f : Nat → Int × Int} {K : Nat → Bool} {M : Nat → Nat} {w wr : World} {t k : Nat} (hB : B.Ok) (h : RSt B n mm fr f K M w wr t k) (hk : k < mm) (x : Int) (hx : (expM K fr (M k) : Int) = x) :
    RSt B n mm fr f K M w (wr.setCell ⟨B.mb, k * 3 + 1, none⟩ (.int .i64 x)) t (k + 1) := by
  obtain ⟨f', hc, h1, h2⟩ := h.conv
  obtain ⟨v, hl, ho⟩ := h.log
  have oth : ∀ b, b ≠ B.mb → (wr.setCell ⟨B.mb, k * 3 + 1, none⟩ (.int .i64 x)).heap[b]? = wr.heap[b]? := fun b hb => heap_setCell_other _ ⟨B.mb, k * 3 + 1, none⟩ b _ hb
  refine ⟨h.kept.setCell (fun hb => hb.2.2.1 rfl) _, ⟨f', hc.of_heap (oth _ hB.xm), h1, h2⟩, ?_, fun i hi => h.todo i (by omega), ⟨v, (oth _ (Ne.symm hB.ml)).trans hl, ownsRow_setCell_below ho hB.m0 _⟩, (oth _ (Ne.symm hB.mq)).trans h.calls, by simpa using h.size⟩
  refine (h.marks.set hk x).congr fun i hi => ?_
  simp only [upd]
  by_cases e : i = k
  · subst e
    rw [if_pos rfl, if_pos (by omega), hx]
  · rw [if_neg e]
    by_cases e2 : i < k
    · rw [if_pos e2, if_pos (by omega)]
    · rw [if_neg e2, if_neg (by omega)]

/-- A round's end where the conversion goes. -/
theorem RSt.no {B : Blk} {n mm fr : Nat} {f : Nat → Int × Int} {K : Nat → Bool} {M : Nat → Nat} {w wr w2 : World} {t k : Nat} {v v' : Value} {at' md : Int} (hB : B.Ok) (h : RSt B n mm fr f K M w wr t k) (ho : wr.ownsRow B.base 21 1 v t (logL f fr t))
    (htodo : ∀ i, k ≤ i → i < mm → fr + (t + 1) ≤ M i) (b : Bool) (ha : at' = (f (fr + t)).1)
    (hp : Kpost wr.heap.size B.lb B.qb B.base at' md v v' t (logL f fr t) b (wr.alloc (.cells #[.int .i32 at', .int .u8 md] 31)) w2) :
    Kept (fun b => b < B.base ∧ b ≠ B.xb ∧ b ≠ B.mb ∧ b ≠ B.lb ∧ b ≠ B.qb) w w2 ∧ (∀ f', Conv wr B.xb n f' → Conv w2 B.xb n f') ∧ Marks w2 B.mb mm (fun i => if i < k then (expM K fr (M i) : Int) else (M i : Int)) ∧
    (∀ i, k ≤ i → i < mm → fr < M i ∧ fr + (t + 1) ≤ M i) ∧ (∃ v, w2.heap[B.lb]? = some (.cells #[v] 40 (0, 0)) ∧ w2.ownsRow B.base 21 1 v (t + 1) (logL f fr (t + 1))) ∧
    w2.heap[B.qb]? = some (.cells #[.int .i64 ((t + 1 : Nat) : Int)] 3 (0, 0)) ∧ B.base ≤ w2.heap.size := by
  have hs := h.size
  have kp := hp.kept
  have nv : ∀ b, b < B.base → v.ownBlock ≠ some b := fun b hb e => by have := (ho.lt b e).1; omega
  have keepb : ∀ b, b < B.base → b ≠ B.lb → b ≠ B.qb → w2.heap[b]? = wr.heap[b]? := fun b hb h1 h2 =>
    (kp.block b ⟨by simp; omega, by omega, h1, h2, nv b hb⟩).trans (Below.heap_alloc _ _ _ (by omega))
  refine ⟨h.kept.trans ?_, fun f' hc => hc.of_heap (keepb _ hB.x0 hB.xl hB.xq), h.marks.of_heap (keepb _ hB.m0 hB.ml hB.mq), fun i h1 h2 => ⟨(h.todo i h1 h2).1, htodo i h1 h2⟩, ⟨v', hp.log, ?_⟩, ?_, ?_⟩
  · exact ⟨kp.os, kp.tape, kp.output, by have := kp.size; simp at this; omega, fun b hb => keepb b hb.1 hb.2.2.2.1 hb.2.2.2.2⟩
  · have := hp.own
    rw [ha] at this
    exact this
  · have := hp.calls
    rw [this]
    simp
  · have := kp.size
    simp at this; omega

theorem RSt.stepNo {B : Blk} {n mm fr : Nat} {f : Nat → Int × Int} {K : Nat → Bool} {M : Nat → Nat} {w wr w2 : World} {t k : Nat} {v v' : Value} {at' md : Int} (hB : B.Ok) (h : RSt B n mm fr f K M w wr t k) (ho : wr.ownsRow B.base 21 1 v t (logL f fr t))
    (htodo : ∀ i, k ≤ i → i < mm → fr + (t + 1) ≤ M i) (hK : K t = false) (ha : at' = (f (fr + t)).1)
    (hp : Kpost wr.heap.size B.lb B.qb B.base at' md v v' t (logL f fr t) false (wr.alloc (.cells #[.int .i32 at', .int .u8 md] 31)) w2) : RSt B n mm fr f K M w w2 (t + 1) k := by
  obtain ⟨a1, a2, a3, a4, a5, a6, a7⟩ := h.no hB ho htodo false ha hp
  obtain ⟨f', hc, h1, h2⟩ := h.conv
  refine ⟨a1, ⟨f', a2 f' hc, ?_, fun i hi => h2 i (by omega)⟩, a3, a4, a5, a6, a7⟩
  rw [cnt_no hK, outL_no hK]
  exact h1

theorem RSt.stepYes {B : Blk} {n mm fr : Nat} {f : Nat → Int × Int} {K : Nat → Bool} {M : Nat → Nat} {w wr w2 : World} {t k : Nat} {v v' : Value} {at' md : Int} (hB : B.Ok) (h : RSt B n mm fr f K M w wr t k) (ho : wr.ownsRow B.base 21 1 v t (logL f fr t))
    (htodo : ∀ i, k ≤ i → i < mm → fr + (t + 1) ≤ M i) (hK : K t = true) (ha : at' = (f (fr + t)).1) (hd : md = (f (fr + t)).2) (hlt : fr + t < n)
    (hp : Kpost wr.heap.size B.lb B.qb B.base at' md v v' t (logL f fr t) true (wr.alloc (.cells #[.int .i32 at', .int .u8 md] 31)) w2) :
    RSt B n mm fr f K M w ((w2.setCell ⟨B.xb, (fr + cnt K t) * 2, none⟩ (.int .i32 at')).setCell ⟨B.xb, (fr + cnt K t) * 2 + 1, none⟩ (.int .u8 ((md + 1) % 256))) (t + 1) k := by
  obtain ⟨a1, a2, a3, a4, ⟨v2, a5, a5'⟩, a6, a7⟩ := h.no hB ho htodo true ha hp
  obtain ⟨f', hc, h1, h2⟩ := h.conv
  have hcl := cnt_le K t
  have oth : ∀ b, b ≠ B.xb → ((w2.setCell ⟨B.xb, (fr + cnt K t) * 2, none⟩ (.int .i32 at')).setCell ⟨B.xb, (fr + cnt K t) * 2 + 1, none⟩ (.int .u8 ((md + 1) % 256))).heap[b]? = w2.heap[b]? := fun b hb =>
    (heap_setCell_other _ ⟨B.xb, (fr + cnt K t) * 2 + 1, none⟩ b _ hb).trans (heap_setCell_other _ ⟨B.xb, (fr + cnt K t) * 2, none⟩ b _ hb)
  refine ⟨(a1.setCell (fun hb => hb.2.1 rfl) _).setCell (fun hb => hb.2.1 rfl) _, ⟨upd f' (fr + cnt K t) (at', (md + 1) % 256), (a2 f' hc).set (by omega) _ _, ?_, ?_⟩, a3.of_heap (oth _ (Ne.symm hB.xm)), a4,
    ⟨v2, (oth _ (Ne.symm hB.xl)).trans a5, ownsRow_setCell_below (ownsRow_setCell_below a5' hB.x0 _) hB.x0 _⟩, (oth _ (Ne.symm hB.xq)).trans a6, by simpa using a7⟩
  · intro i hi
    rw [cnt_yes hK] at hi
    rw [outL_yes hK]
    simp only [upd]
    by_cases e : i = fr + cnt K t
    · rw [if_pos e, e, List.getElem?_append_right (by rw [outL_length]; exact Nat.le_refl _), outL_length, ha, hd]; simp
    · rw [if_neg e, List.getElem?_append_left (by rw [outL_length]; omega)]
      exact h1 i (by omega)
  · intro i hi
    simp only [upd]
    rw [if_neg (by omega)]
    exact h2 i (by omega)
end Go.Proofs.Ybulkamzi
