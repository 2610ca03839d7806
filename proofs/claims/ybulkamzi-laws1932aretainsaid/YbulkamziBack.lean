import Derived.Test.YbulkamziFront
namespace Go.Proofs.Ybulkamzi
open Go.RowKit

/-- Conversions as cells. -/
def flat2 : List (Int × Int) → List Value
  | [] => []
  | p :: r => .int .i32 p.1 :: .int .u8 p.2 :: flat2 r
theorem flat2_append (a b : List (Int × Int)) : flat2 (a ++ b) = flat2 a ++ flat2 b := by
  induction a with
  | nil => rfl
  | cons x r ih => simp [flat2, ih]
theorem flat2_length (a : List (Int × Int)) : (flat2 a).length = a.length * 2 := by
  induction a with
  | nil => rfl
  | cons x r ih => simp [flat2, ih]; omega
theorem flat2_get : ∀ (a : List (Int × Int)) (i : Nat) (y : Int × Int), a[i]? = some y → (flat2 a)[i * 2]? = some (.int .i32 y.1) ∧ (flat2 a)[i * 2 + 1]? = some (.int .u8 y.2)
  | [], i, y, h => by simp at h
  | x :: r, 0, y, h => by simp at h; subst h; simp [flat2]
  | x :: r, i + 1, y, h => by
    have := flat2_get r i y (by simpa using h)
    rw [show (i + 1) * 2 = i * 2 + 1 + 1 by omega]
    simpa [flat2] using this

/-- The list that is built: block tb. -/
structure Want (w5 wr : World) (n k : Nat) (L : List (Int × Int)) : Prop where
  own : wr.ownsRow w5.heap.size 31 2 (.slice (some ⟨w5.heap.size, 0, none⟩) k n) k (flat2 L)
  below : Below w5.heap.size w5 wr
theorem Want.size {w5 wr : World} {n k : Nat} {L : List (Int × Int)} (h : Want w5 wr n k L) : w5.heap.size < wr.heap.size := (h.own.lt w5.heap.size rfl).2
theorem Want.start (w5 : World) (n : Nat) (c : Array Value) (hn : n ≤ 1024) (hc : c.size = n * 2) : Want w5 (w5.alloc (.cells c 31)) n 0 [] :=
  ⟨World.ownsRow_made w5 c n (Nat.le_refl _) (by unfold maxLen; omega) hc, (Below.refl _ _).alloc (Nat.le_refl _) _⟩
theorem Want.step {w5 wr W w' : World} {n k : Nat} {L : List (Int × Int)} (h : Want w5 wr n k L) (hW : Below w5.heap.size wr W) {a b : Int} (ho : w'.ownsRow w5.heap.size 31 2 (.slice (some ⟨w5.heap.size, 0, none⟩) (k + 1) n) (k + 1) (flat2 L ++ [.int .i32 a, .int .u8 b]))
    (hg : W.grownBy w' (some w5.heap.size)) : Want w5 w' n (k + 1) (L ++ [(a, b)]) := by
  refine ⟨by rw [flat2_append]; exact ho, (h.below.trans hW).grown hg ?_ (fun k e => by simp only [Option.some.injEq] at e; omega)⟩
  have := h.below.size
  have := hW.size
  omega
theorem Want.alloc {w5 wr : World} {n k : Nat} {L : List (Int × Int)} (h : Want w5 wr n k L) (o : Obj) : Want w5 (wr.alloc o) n k L :=
  ⟨h.own.alloc o, h.below.alloc h.below.size o⟩
theorem Want.cell {w5 wr : World} {n k i : Nat} {L : List (Int × Int)} (h : Want w5 wr n k L) (hi : i < k) (y : Int × Int) (hy : L[i]? = some y) :
    wr.cell? ⟨w5.heap.size, i * 2, none⟩ = some (.int .i32 y.1) ∧ wr.cell? ⟨w5.heap.size, i * 2 + 1, none⟩ = some (.int .u8 y.2) := by
  obtain ⟨e1, e2⟩ := flat2_get L i y hy
  exact ⟨(h.own.cellAt _ (by omega)).trans e1, (h.own.cellAt _ (by omega)).trans e2⟩
theorem Want.drewN {w5 wr : World} {n k : Nat} {L : List (Int × Int)} (h : Want w5 wr n k L) (m : Nat) : Want w5 (wr.drewN m) n k L := ⟨h.own, below_drewN h.below m⟩
theorem Bits.lt {w : World} {a : Option Addr} {n b off : Nat} {K : Nat → Bool} (h : Bits w a n K) (ha : a = some ⟨b, off, none⟩) (hn : 0 < n) : b < w.heap.size := by
  obtain ⟨b', off', ha', hc⟩ := h.1 0 hn
  rw [ha] at ha'
  simp only [Option.some.injEq, Addr.mk.injEq, and_true] at ha'
  rw [ha'.1]; exact block_lt_of_cell hc
theorem range_snoc (f : Nat → Int × Int) (k : Nat) : (List.range (k + 1)).map f = (List.range k).map f ++ [((f k).1, (f k).2)] := by
  rw [List.range_succ, List.map_append]; rfl

section
variable {w w5 wr : World} {ba : Option Addr} {bn bc n : Nat} {f : Nat → Int × Int} {p mm : Nat} {M : Nat → Nat} {fr : Nat} {K : Nat → Bool}
theorem BK.boxc (h : BK w w5 ba bn bc n f p mm M fr K) (hb : Below w5.heap.size w5 wr) : wr.cell? ⟨w.heap.size, 0, none⟩ = some (.slice ba bn bc) := by
  rw [cell_of_row _ _ _ _ _ _ ((hb.block _ (lt_of_heap h.box)).trans h.box)]; rfl
theorem BK.origc (h : BK w w5 ba bn bc n f p mm M fr K) (hb : Below w5.heap.size w5 wr) : Conv wr (w.heap.size + 1) n f := h.orig.of_heap (hb.block _ h.orig.lt)
theorem BK.omarksc (h : BK w w5 ba bn bc n f p mm M fr K) (hb : Below w5.heap.size w5 wr) : Marks wr p mm (fun i => (M i : Int)) := h.omarks.of_heap (hb.block _ h.omarks.lt)
theorem BK.marksc (h : BK w w5 ba bn bc n f p mm M fr K) (hb : Below w5.heap.size w5 wr) : Marks wr (p + 3) mm (fun i => (expM K fr (M i) : Int)) := h.marks.of_heap (hb.block _ h.marks.lt)
theorem BK.spc (h : BK w w5 ba bn bc n f p mm M fr K) (hb : Below w5.heap.size w5 wr) : wr.cell? ⟨p + 1, 0, none⟩ = some (.slice (some ⟨p + 3, 0, none⟩) mm mm) ∧ wr.cell? ⟨p + 1, 1, none⟩ = some (.int .u64 7) ∧ wr.cell? ⟨p + 1, 2, none⟩ = some (.slice (some ⟨p + 2, 0, none⟩) (fr + cnt K (n - fr)) n) := by
  have e := (hb.block _ (lt_of_heap h.sp)).trans h.sp
  rw [cell_of_row _ _ _ _ _ _ e, cell_of_row _ _ _ _ _ _ e, cell_of_row _ _ _ _ _ _ e]
  exact ⟨rfl, rfl, rfl⟩
theorem BK.convc (h : BK w w5 ba bn bc n f p mm M fr K) (hb : Below w5.heap.size w5 wr) (hfr : fr ≤ n) {i : Nat} (hi : i < fr + cnt K (n - fr)) :
    ∃ y : Int × Int, (outL f K fr (n - fr))[i]? = some y ∧ wr.cell? ⟨p + 2, i * 2, none⟩ = some (.int .i32 y.1) ∧ wr.cell? ⟨p + 2, i * 2 + 1, none⟩ = some (.int .u8 y.2) := by
  obtain ⟨f', hc, hpre⟩ := h.conv
  have hl := cnt_le K (n - fr)
  obtain ⟨c0, c1, _, _⟩ := (hc.of_heap (hb.block _ hc.lt)).cell (i := i) (by omega)
  exact ⟨f' i, hpre i hi, c0, c1⟩
theorem BK.logc (h : BK w w5 ba bn bc n f p mm M fr K) : ∃ v : Value, (∃ a c, v = .slice a (n - fr) c) ∧ ∀ wr, Below w5.heap.size w5 wr → wr.cell? ⟨p + 4, 0, none⟩ = some v ∧ (∀ i, i < n - fr → ∃ g, v.ownBlock = some g ∧ (∃ c, v = .slice (some ⟨g, 0, none⟩) (n - fr) c) ∧ wr.cell? ⟨g, i, none⟩ = some (.int .i32 (f (fr + i)).1)) := by
  obtain ⟨v, hv, ho⟩ := h.log
  refine ⟨v, ?_, fun wr hb => ⟨?_, fun i hi => ?_⟩⟩
  · rcases ho.2 with ⟨e, e0⟩ | ⟨g, cap, cur, hv', _⟩
    · exact ⟨none, 0, by rw [e0]; exact e⟩
    · exact ⟨_, _, hv'⟩
  · rw [cell_of_row _ _ _ _ _ _ ((hb.block _ (lt_of_heap hv)).trans hv)]; rfl
  · obtain ⟨g, cap, rfl, hg, hlt⟩ := ho.form (by omega)
    refine ⟨g, rfl, ⟨cap, rfl⟩, ?_⟩
    rw [hb.cell (p := ⟨g, i, none⟩) hlt, ho.cellAt i (by omega)]
    exact logL_get f fr (n - fr) i hi
theorem BK.bitsc (h : BK w w5 ba bn bc n f p mm M fr K) (hb : Below w5.heap.size w5 wr) (hbits : Bits w ba bn K) : Bits wr ba bn K := by
  refine ⟨fun i hi => ?_, hbits.2⟩
  obtain ⟨b, off, hba, hc⟩ := hbits.1 i hi
  have hl := block_lt_of_cell hc
  have hs := h.below.size
  exact ⟨b, off, hba, (hb.cell (p := ⟨b, off + i, none⟩) (Nat.lt_of_lt_of_le hl hs)).trans ((h.below.cell (p := ⟨b, off + i, none⟩) hl).trans hc)⟩
end
end Go.Proofs.Ybulkamzi
