import Derived.Test.YbulkamziRowsMem
namespace Go.Proofs.Ybulkamzi
open Go.RowKit

theorem Yba.info31 : (Yba.prog.info? 31).map (fun i => (i.zero, i.size, i.bytes)) = some (some (.agg #[.int .i32 0, .int .u8 0]), 2, 8) := by kernel_rfl
theorem Yba.info35 : (Yba.prog.info? 35).map (fun i => (i.zero, i.size, i.bytes)) = some (some (.agg #[.int .i64 0, .int .i64 0, .int .u64 0]), 3, 24) := by kernel_rfl

/-- The conversions that came in. -/
def Convs (w : World) (a : Option Addr) (n : Nat) (f : Nat → Int × Int) : Prop :=
  ∀ i, i < n → ∃ b off, a = some ⟨b, off, none⟩ ∧ w.cell? ⟨b, off + i * 2, none⟩ = some (.int .i32 (f i).1) ∧ w.cell? ⟨b, off + i * 2 + 1, none⟩ = some (.int .u8 (f i).2)
/-- The steps that came in. -/
def Steps (w : World) (a : Option Addr) (n : Nat) (g : Nat → Int) : Prop :=
  ∀ i, i < n → ∃ b off, a = some ⟨b, off, none⟩ ∧ w.cell? ⟨b, off + i, none⟩ = some (.int .u8 (g i)) ∧ 0 ≤ g i ∧ g i < 256

set_option maxRecDepth 100000 in
set_option maxHeartbeats 400000 in
theorem law_big (ca sa ba : Option Addr) (n nc mm mc bn bc : Nat) (x : Int) (w : World) (h : 1024 < n ∨ 1024 < mm ∨ 1024 < bn) :
    Calls Yba.prog 3 #[.slice ca n nc, .slice sa mm mc, .slice ba bn bc, .int .u64 x] w fun e w' => e = .returned (.bool true) ∧ Below w.heap.size w w' := by
  by_cases h1 : 1024 < n
  · clear h
    go_enter Yba.func3, Yba.ntmps3
    go_wp2
    go_ret
    exact ⟨rfl, (Below.refl _ _).alloc (Nat.le_refl _) _⟩
  · by_cases h2 : 1024 < mm
    · clear h
      go_enter Yba.func3, Yba.ntmps3
      go_wp2
      go_ret
      exact ⟨rfl, (Below.refl _ _).alloc (Nat.le_refl _) _⟩
    · have h3 : 1024 < bn := by omega
      clear h
      go_enter Yba.func3, Yba.ntmps3
      go_wp2
      go_ret
      exact ⟨rfl, (Below.refl _ _).alloc (Nat.le_refl _) _⟩

/-- After k rounds of the first loop. -/
structure L1 (w wr : World) (ba : Option Addr) (bn bc n k : Nat) (f : Nat → Int × Int) : Prop where
  below : Below w.heap.size w wr
  box : wr.heap[w.heap.size]? = some (.cells #[.slice ba bn bc] 24 (0, 0))
  orig : ConvP wr (w.heap.size + 1) n k f
  size : w.heap.size + 2 ≤ wr.heap.size
theorem L1.start (w : World) (ba : Option Addr) (bn bc n : Nat) (f : Nat → Int × Int) :
    L1 w ((w.alloc (.cells #[.slice ba bn bc] 24)).alloc (.cells (madeCells #[.int .i32 0, .int .u8 0] (n * 2)) 31)) ba bn bc n 0 f :=
  ⟨((Below.refl _ _).alloc (Nat.le_refl _) _).alloc (by simp) _, heap_alloc2_old _ _ _, ⟨_, heap_alloc2_new _ _ _, size_madeCells _ _, fun i h => absurd h (Nat.not_lt_zero _)⟩, by simp⟩
theorem L1.step {w wr : World} {ba : Option Addr} {bn bc n k : Nat} {f : Nat → Int × Int} (h : L1 w wr ba bn bc n k f) (hk : k < n) (o : Obj) :
    L1 w (((wr.setCell ⟨w.heap.size + 1, k * 2, none⟩ (.int .i32 (f k).1)).setCell ⟨w.heap.size + 1, k * 2 + 1, none⟩ (.int .u8 (f k).2)).alloc o) ba bn bc n (k + 1) f := by
  have hs := h.size
  have hst := h.orig.step hk
  have hb := (h.below.setCell (p := ⟨w.heap.size + 1, k * 2, none⟩) (Nat.le_succ _) (.int .i32 (f k).1)).setCell (p := ⟨w.heap.size + 1, k * 2 + 1, none⟩) (Nat.le_succ _) (.int .u8 (f k).2)
  have hx : ((wr.setCell ⟨w.heap.size + 1, k * 2, none⟩ (.int .i32 (f k).1)).setCell ⟨w.heap.size + 1, k * 2 + 1, none⟩ (.int .u8 (f k).2)).heap[w.heap.size]? = wr.heap[w.heap.size]? :=
    (heap_setCell_other _ ⟨w.heap.size + 1, k * 2 + 1, none⟩ _ _ (by simp)).trans (heap_setCell_other _ ⟨w.heap.size + 1, k * 2, none⟩ _ _ (by simp))
  have hz : ((wr.setCell ⟨w.heap.size + 1, k * 2, none⟩ (.int .i32 (f k).1)).setCell ⟨w.heap.size + 1, k * 2 + 1, none⟩ (.int .u8 (f k).2)).heap.size = wr.heap.size := by rw [World.size_setCell, World.size_setCell]
  generalize (wr.setCell ⟨w.heap.size + 1, k * 2, none⟩ (.int .i32 (f k).1)).setCell ⟨w.heap.size + 1, k * 2 + 1, none⟩ (.int .u8 (f k).2) = W at *
  exact ⟨hb.alloc (by omega) _, (Below.heap_alloc _ _ _ (by omega)).trans (hx.trans h.box), hst.of_heap (Below.heap_alloc _ _ _ (by omega)), by simp; omega⟩

/-- After k rounds of the second loop: the marks' row is block p. -/
structure L2 (w wr : World) (ba : Option Addr) (bn bc n : Nat) (f : Nat → Int × Int) (p mm k : Nat) (m : Nat → Int) : Prop where
  below : Below w.heap.size w wr
  box : wr.heap[w.heap.size]? = some (.cells #[.slice ba bn bc] 24 (0, 0))
  orig : Conv wr (w.heap.size + 1) n f
  marks : MarksP wr p mm k m
  size : wr.heap.size = p + 1
  lt : w.heap.size + 2 ≤ p
theorem L2.start {w wr : World} {ba : Option Addr} {bn bc n : Nat} {f : Nat → Int × Int} (h : L1 w wr ba bn bc n n f) (mm : Nat) (m : Nat → Int) :
    L2 w (wr.alloc (.cells (madeCells #[.int .i64 0, .int .i64 0, .int .u64 0] (mm * 3)) 35)) ba bn bc n f wr.heap.size mm 0 m := by
  have hs := h.size
  exact ⟨h.below.alloc (by omega) _, (Below.heap_alloc _ _ _ (by omega)).trans h.box, h.orig.whole.of_heap (Below.heap_alloc _ _ _ (by omega)), ⟨_, heap_alloc_new _ _, size_madeCells _ _, fun i h => absurd h (Nat.not_lt_zero _)⟩, by simp, hs⟩
theorem L2.step' {w wr : World} {ba : Option Addr} {bn bc n : Nat} {f : Nat → Int × Int} {p mm k : Nat} {m : Nat → Int} {y : Int} (h : L2 w wr ba bn bc n f p mm k m) (hk : k < mm) (hy : y = m k) :
    L2 w (((wr.setCell ⟨p, k * 3, none⟩ (.int .i64 k)).setCell ⟨p, k * 3 + 1, none⟩ (.int .i64 y)).setCell ⟨p, k * 3 + 2, none⟩ (.int .u64 ((k : Int) + 1))) ba bn bc n f p mm (k + 1) m := by
  subst hy
  have hl := h.lt
  have oth : ∀ b, b ≠ p → (((wr.setCell ⟨p, k * 3, none⟩ (.int .i64 k)).setCell ⟨p, k * 3 + 1, none⟩ (.int .i64 (m k))).setCell ⟨p, k * 3 + 2, none⟩ (.int .u64 ((k : Int) + 1))).heap[b]? = wr.heap[b]? := fun b hb =>
    (heap_setCell_other _ ⟨p, k * 3 + 2, none⟩ b _ hb).trans ((heap_setCell_other _ ⟨p, k * 3 + 1, none⟩ b _ hb).trans (heap_setCell_other _ ⟨p, k * 3, none⟩ b _ hb))
  exact ⟨((h.below.setCell (p := ⟨p, k * 3, none⟩) (by show _ ≤ p; omega) _).setCell (p := ⟨p, k * 3 + 1, none⟩) (by show _ ≤ p; omega) _).setCell (p := ⟨p, k * 3 + 2, none⟩) (by show _ ≤ p; omega) _,
    (oth _ (by omega)).trans h.box, h.orig.of_heap (oth _ (by omega)), h.marks.step hk, by rw [World.size_setCell, World.size_setCell, World.size_setCell]; exact h.size, h.lt⟩

theorem copy1 {w wc : World} {ba : Option Addr} {bn bc n : Nat} {f : Nat → Int × Int} {p mm : Nat} {m : Nat → Int} (h : L2 w wc ba bn bc n f p mm mm m) {o1 : Obj} (n' : Nat) :
    ((wc.alloc o1).alloc (.cells (madeCells #[.int .i32 0, .int .u8 0] (n' * 2)) 31)).heap[p + 2]? = some (.cells (madeCells #[.int .i32 0, .int .u8 0] (n' * 2)) 31 (0, 0)) ∧
    ((wc.alloc o1).alloc (.cells (madeCells #[.int .i32 0, .int .u8 0] (n' * 2)) 31)).heap[w.heap.size + 1]? = wc.heap[w.heap.size + 1]? ∧
    ((wc.alloc o1).alloc (.cells (madeCells #[.int .i32 0, .int .u8 0] (n' * 2)) 31)).heap[p + 1]? = some o1 := by
  have hs := h.size
  have hl := h.lt
  refine ⟨?_, ?_, ?_⟩
  · rw [show p + 2 = wc.heap.size + 1 by omega]; exact heap_alloc2_new _ _ _
  · exact (Below.heap_alloc _ _ _ (by simp; omega)).trans (Below.heap_alloc _ _ _ (by omega))
  · rw [show p + 1 = wc.heap.size by omega]; exact heap_alloc2_old _ _ _

/-- Behind the copy of the conversions. -/
structure F1 (w w1 : World) (ba : Option Addr) (bn bc n : Nat) (f : Nat → Int × Int) (p mm : Nat) (m : Nat → Int) (src3 : Array Value) : Prop where
  below : Below w.heap.size w w1
  box : w1.heap[w.heap.size]? = some (.cells #[.slice ba bn bc] 24 (0, 0))
  orig : Conv w1 (w.heap.size + 1) n f
  omarks : w1.heap[p]? = some (.cells src3 35 (0, 0))
  sp : w1.heap[p + 1]? = some (.cells #[.slice none 0 0, .int .u64 7, .slice (some ⟨p + 2, 0, none⟩) n n, .int .i64 0, .int .i64 0, .int .u64 0] 39 (0, 0))
  conv : Conv w1 (p + 2) n f
  size : w1.heap.size = p + 3
  lt : w.heap.size + 2 ≤ p

theorem front1 {w wc w1 : World} {ba : Option Addr} {bn bc n : Nat} {f : Nat → Int × Int} {p mm : Nat} {m : Nat → Int} {src src3 : Array Value} (h : L2 w wc ba bn bc n f p mm mm m) (hr : Row2 src n f) (hsrc3 : wc.heap[p]? = some (.cells src3 35 (0, 0)))
    (hc : Copied (p + 2) src 31 ((wc.alloc (.cells #[.slice none 0 0, .int .u64 7, .slice (some ⟨p + 2, 0, none⟩) n n, .int .i64 0, .int .i64 0, .int .u64 0] 39)).alloc (.cells (madeCells #[.int .i32 0, .int .u8 0] (n * 2)) 31)) w1) : F1 w w1 ba bn bc n f p mm m src3 := by
  have hs := h.size
  have hl := h.lt
  have old : ∀ b, b < p + 1 → w1.heap[b]? = wc.heap[b]? := fun b hb => (hc.kept.block b (by omega)).trans ((Below.heap_alloc _ _ _ (by simp; omega)).trans (Below.heap_alloc _ _ _ (by omega)))
  refine ⟨?_, (old _ (by omega)).trans h.box, h.orig.of_heap (old _ (by omega)), (old _ (by omega)).trans hsrc3, (hc.kept.block _ (by omega)).trans (copy1 h n).2.2, ⟨src, hc.row, hr⟩, by rw [hc.size]; simp; omega, hl⟩
  exact h.below.trans ⟨hc.kept.os, hc.kept.tape, hc.kept.output, by rw [hc.size]; simp; omega, fun k hk => old k (by omega)⟩

theorem F1.spc {w w1 : World} {ba : Option Addr} {bn bc n : Nat} {f : Nat → Int × Int} {p mm : Nat} {m : Nat → Int} {src3 : Array Value} (h : F1 w w1 ba bn bc n f p mm m src3) : w1.cell? ⟨p + 1, 0, none⟩ = some (.slice none 0 0) ∧ w1.frozen? ⟨p + 1, 0, none⟩ = false :=
  ⟨by rw [cell_of_row _ _ _ _ _ _ h.sp]; rfl, frozen_of_row _ _ _ _ _ h.sp⟩

theorem copy2 {w w1 : World} {ba : Option Addr} {bn bc n : Nat} {f : Nat → Int × Int} {p mm : Nat} {m : Nat → Int} {src3 : Array Value} (h : F1 w w1 ba bn bc n f p mm m src3) {v : Value} (n' : Nat) :
    ((w1.setCell ⟨p + 1, 0, none⟩ v).alloc (.cells (madeCells #[.int .i64 0, .int .i64 0, .int .u64 0] (n' * 3)) 35)).heap[p + 3]? = some (.cells (madeCells #[.int .i64 0, .int .i64 0, .int .u64 0] (n' * 3)) 35 (0, 0)) ∧
    ((w1.setCell ⟨p + 1, 0, none⟩ v).alloc (.cells (madeCells #[.int .i64 0, .int .i64 0, .int .u64 0] (n' * 3)) 35)).heap[p]? = w1.heap[p]? ∧
    (∀ b, b < p + 3 → b ≠ p + 1 → ((w1.setCell ⟨p + 1, 0, none⟩ v).alloc (.cells (madeCells #[.int .i64 0, .int .i64 0, .int .u64 0] (n' * 3)) 35)).heap[b]? = w1.heap[b]?) ∧
    ((w1.setCell ⟨p + 1, 0, none⟩ v).alloc (.cells (madeCells #[.int .i64 0, .int .i64 0, .int .u64 0] (n' * 3)) 35)).heap[p + 1]? = some (.cells #[v, .int .u64 7, .slice (some ⟨p + 2, 0, none⟩) n n, .int .i64 0, .int .i64 0, .int .u64 0] 39 (0, 0)) := by
  have hs := h.size
  have hz : (w1.setCell ⟨p + 1, 0, none⟩ v).heap.size = p + 3 := (World.size_setCell _ _ _).trans hs
  have oth : ∀ b, b < p + 3 → b ≠ p + 1 → ((w1.setCell ⟨p + 1, 0, none⟩ v).alloc (.cells (madeCells #[.int .i64 0, .int .i64 0, .int .u64 0] (n' * 3)) 35)).heap[b]? = w1.heap[b]? := fun b hb hne =>
    (Below.heap_alloc _ _ _ (by omega)).trans (heap_setCell_other _ ⟨p + 1, 0, none⟩ b _ hne)
  refine ⟨?_, oth p (by omega) (by omega), oth, ?_⟩
  · rw [← hz]; exact heap_alloc_new _ _
  · exact (Below.heap_alloc _ _ _ (by omega)).trans (heap_setCell_same _ _ _ _ _ _ h.sp)

/-- Behind the copy of the marks. -/
structure F2 (w w2 : World) (ba : Option Addr) (bn bc n : Nat) (f : Nat → Int × Int) (p mm : Nat) (m : Nat → Int) : Prop where
  below : Below w.heap.size w w2
  box : w2.heap[w.heap.size]? = some (.cells #[.slice ba bn bc] 24 (0, 0))
  orig : Conv w2 (w.heap.size + 1) n f
  omarks : Marks w2 p mm m
  sp : w2.heap[p + 1]? = some (.cells #[.slice (some ⟨p + 3, 0, none⟩) mm mm, .int .u64 7, .slice (some ⟨p + 2, 0, none⟩) n n, .int .i64 0, .int .i64 0, .int .u64 0] 39 (0, 0))
  conv : Conv w2 (p + 2) n f
  marks : Marks w2 (p + 3) mm m
  size : w2.heap.size = p + 4
  lt : w.heap.size + 2 ≤ p

theorem front2 {w w1 w2 : World} {ba : Option Addr} {bn bc n : Nat} {f : Nat → Int × Int} {p mm : Nat} {m : Nat → Int} {src3 : Array Value} (h : F1 w w1 ba bn bc n f p mm m src3) (hr : Row3 src3 mm m)
    (hc : Copied (p + 3) src3 35 ((w1.setCell ⟨p + 1, 0, none⟩ (.slice (some ⟨p + 3, 0, none⟩) mm mm)).alloc (.cells (madeCells #[.int .i64 0, .int .i64 0, .int .u64 0] (mm * 3)) 35)) w2) : F2 w w2 ba bn bc n f p mm m := by
  have hs := h.size
  have hl := h.lt
  obtain ⟨c1, c2, c3, c4⟩ := copy2 h (v := .slice (some ⟨p + 3, 0, none⟩) mm mm) mm
  have old : ∀ b, b < p + 3 → b ≠ p + 1 → w2.heap[b]? = w1.heap[b]? := fun b hb hne => (hc.kept.block b (by omega)).trans (c3 b hb hne)
  have hz : w2.heap.size = p + 4 := by rw [hc.size]; simp; omega
  refine ⟨?_, (old _ (by omega) (by omega)).trans h.box, h.orig.of_heap (old _ (by omega) (by omega)), ⟨src3, (old _ (by omega) (by omega)).trans h.omarks, hr⟩, (hc.kept.block _ (by omega)).trans c4, h.conv.of_heap (old _ (by omega) (by omega)), ⟨src3, hc.row, hr⟩, hz, hl⟩
  exact h.below.trans ⟨hc.kept.os, hc.kept.tape, hc.kept.output, by omega, fun k hk => old k (by omega) (by omega)⟩

theorem blk_ok {N p : Nat} (h : N + 2 ≤ p) : Blk.Ok ⟨p + 1, p + 2, p + 3, p + 4, p + 4 + 1, N, p + 6⟩ := by
  constructor <;> show _ <;> dsimp only <;> omega

/-- What stands behind the call of retain. -/
structure BK (w w5 : World) (ba : Option Addr) (bn bc n : Nat) (f : Nat → Int × Int) (p mm : Nat) (M : Nat → Nat) (fr : Nat) (K : Nat → Bool) : Prop where
  below : Below w.heap.size w w5
  box : w5.heap[w.heap.size]? = some (.cells #[.slice ba bn bc] 24 (0, 0))
  orig : Conv w5 (w.heap.size + 1) n f
  omarks : Marks w5 p mm (fun i => (M i : Int))
  sp : w5.heap[p + 1]? = some (.cells #[.slice (some ⟨p + 3, 0, none⟩) mm mm, .int .u64 7, .slice (some ⟨p + 2, 0, none⟩) (fr + cnt K (n - fr)) n, .int .i64 0, .int .i64 0, .int .u64 0] 39 (0, 0))
  conv : ∃ f', Conv w5 (p + 2) n f' ∧ ∀ i, i < fr + cnt K (n - fr) → (outL f K fr (n - fr))[i]? = some (f' i)
  marks : Marks w5 (p + 3) mm (fun i => (expM K fr (M i) : Int))
  log : ∃ v, w5.heap[p + 4]? = some (.cells #[v] 40 (0, 0)) ∧ w5.ownsRow (p + 6) 21 1 v (n - fr) (logL f fr (n - fr))
  lt : w.heap.size + 2 ≤ p
  size : p + 6 ≤ w5.heap.size

theorem call_retain {w w2 : World} {ba : Option Addr} {bn bc n : Nat} {f : Nat → Int × Int} {p mm : Nat} {M : Nat → Nat} (h : F2 w w2 ba bn bc n f p mm (fun i => (M i : Int))) (K : Nat → Bool) (fr : Nat) (hn : n ≤ 1024) (hmm : mm ≤ 1024) (hfr : fr ≤ n) (hM : ∀ i, i < mm → M i ≤ n) (hmono : ∀ i j, i ≤ j → j < mm → M i ≤ M j) (hbn : bn ≤ 1024)
    (hbits : Bits w ba bn K) :
    Calls Yba.prog 8 #[.pointer (some ⟨p + 1, 0, none⟩), .int .i64 fr, .func (.func 6) #[] #[.pointer (some ⟨p + 4, 0, none⟩), .pointer (some ⟨p + 4 + 1, 0, none⟩), .pointer (some ⟨w.heap.size, 0, none⟩)]]
      ((w2.alloc (.cells #[.slice none 0 0] 40)).alloc (.cells #[.int .i64 0] 3)) fun e w' => e = .returned (.tuple #[]) ∧ BK w w' ba bn bc n f p mm M fr K := by
  have hs := h.size
  have hl := h.lt
  have old : ∀ b, b < p + 4 → ((w2.alloc (.cells #[.slice none 0 0] 40)).alloc (.cells #[.int .i64 0] 3)).heap[b]? = w2.heap[b]? := fun b hb => (Below.heap_alloc _ _ _ (by simp; omega)).trans (Below.heap_alloc _ _ _ (by omega))
  have hlog : ((w2.alloc (.cells #[.slice none 0 0] 40)).alloc (.cells #[.int .i64 0] 3)).heap[p + 4]? = some (.cells #[.slice none 0 0] 40 (0, 0)) := by rw [← hs]; exact heap_alloc2_old _ _ _
  have hcal : ((w2.alloc (.cells #[.slice none 0 0] 40)).alloc (.cells #[.int .i64 0] 3)).heap[p + 4 + 1]? = some (.cells #[.int .i64 0] 3 (0, 0)) := by rw [← hs]; exact heap_alloc2_new _ _ _
  have hz : ((w2.alloc (.cells #[.slice none 0 0] 40)).alloc (.cells #[.int .i64 0] 3)).heap.size = p + 6 := by simp; omega
  have hbel : Below w.heap.size w ((w2.alloc (.cells #[.slice none 0 0] 40)).alloc (.cells #[.int .i64 0] 3)) := (h.below.alloc (by omega) _).alloc (by simp; omega) _
  have blt : ∀ b off, ba = some ⟨b, off, none⟩ → 0 < bn → b < w.heap.size := fun b off hba hpos => by
    obtain ⟨b', off', hba', hc⟩ := hbits.1 0 hpos
    rw [hba] at hba'
    simp only [Option.some.injEq, Addr.mk.injEq, and_true] at hba'
    rw [hba'.1]; exact block_lt_of_cell hc
  generalize (w2.alloc (.cells #[.slice none 0 0] 40)).alloc (.cells #[.int .i64 0] 3) = W at *
  refine (retain_any ⟨p + 1, p + 2, p + 3, p + 4, p + 4 + 1, w.heap.size, p + 6⟩ (blk_ok hl) n mm fr f K M ba bn bc (.int .u64 7) (.int .i64 0) (.int .i64 0) (.int .u64 0) W hn hmm hfr hM hmono hbn
    ((old (p + 1) (by omega)).trans h.sp) (h.conv.of_heap (old (p + 2) (by omega))) (h.marks.of_heap (old (p + 3) (by omega))) hlog hcal ((old w.heap.size (by omega)).trans h.box) (hbits.of_heap fun b off hba hpos => hbel.block b (blt b off hba hpos))
    (fun b off hba hpos => by have := blt b off hba hpos; dsimp only; omega) (by dsimp only; omega)).mono ?_
  rintro e w' ⟨rfl, wr, hst, rfl⟩
  refine ⟨rfl, ?_⟩
  have kb : ∀ b, b < p + 6 → b ≠ p + 2 → b ≠ p + 3 → b ≠ p + 4 → b ≠ p + 4 + 1 → wr.heap[b]? = W.heap[b]? := fun b h0 h1 h2 h3 h4 => hst.kept.block b ⟨h0, h1, h2, h3, h4⟩
  have oth : ∀ b, b ≠ p + 1 → (wr.setCell ⟨p + 1, 2, none⟩ (.slice (some ⟨p + 2, 0, none⟩) (fr + cnt K (n - fr)) n)).heap[b]? = wr.heap[b]? := fun b hb => heap_setCell_other _ ⟨p + 1, 2, none⟩ b _ hb
  obtain ⟨f', hc, hpre, _⟩ := hst.conv
  obtain ⟨v, hv, ho⟩ := hst.log
  refine ⟨?_, ?_, ?_, ?_, ?_, ⟨f', hc.of_heap (oth _ (by dsimp only; omega)), hpre⟩, ?_, ⟨v, (oth _ (by omega)).trans hv, ownsRow_setCell_below ho (by dsimp only; omega) _⟩, hl, ?_⟩
  · refine hbel.trans ⟨hst.kept.os, hst.kept.tape, hst.kept.output, ?_, fun k hk => (oth k (by omega)).trans (kb k (by omega) (by omega) (by omega) (by omega) (by omega))⟩
    have := hst.kept.size
    simpa using this
  · exact (oth _ (by omega)).trans ((kb _ (by omega) (by omega) (by omega) (by omega) (by omega)).trans ((old _ (by omega)).trans h.box))
  · exact (h.orig.of_heap (old _ (by omega))).of_heap ((oth _ (by omega)).trans (kb _ (by omega) (by omega) (by omega) (by omega) (by omega)))
  · exact (h.omarks.of_heap (old _ (by omega))).of_heap ((oth _ (by omega)).trans (kb _ (by omega) (by omega) (by omega) (by omega) (by omega)))
  · exact heap_setCell_same _ _ _ _ _ _ ((kb _ (by omega) (by omega) (by omega) (by omega) (by omega)).trans ((old _ (by omega)).trans h.sp))
  · refine (hst.marks.of_heap (oth _ (by dsimp only; omega))).congr fun i hi => ?_
    rw [if_pos hi]
  · have := hst.size
    simpa using this
end Go.Proofs.Ybulkamzi
