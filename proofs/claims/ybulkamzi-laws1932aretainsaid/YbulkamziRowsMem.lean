import Derived.Test.YbulkamziRetain
namespace Go.Proofs.Ybulkamzi
open Go.RowKit

/-- What 'copy' leaves: row g holds src, all else is as it was. -/
structure Copied (g : Nat) (src : Array Value) (t : TypeId) (w w' : World) : Prop where
  kept : Kept (fun k => k ≠ g) w w'
  row : w'.heap[g]? = some (.cells src t (0, 0))
  size : w'.heap.size = w.heap.size

/-- 'copy(dst, src)' of a whole row onto another of the same length, whatever the element's size. -/
theorem run_copy_whole {P : Program} (w : World) (T ty elem : TypeId) (hu : P.underlying T = some (.slice elem)) (i : TypeInfo) (hi : P.info? elem = some i) (size : Nat) (hsz : i.size = size)
    (g h n : Nat) (cur src : Array Value) (t t' : TypeId) (hg : w.heap[g]? = some (.cells cur t (0, 0))) (hh : w.heap[h]? = some (.cells src t' (0, 0))) (h1 : cur.size = n * size) (h2 : src.size = n * size) (h3 : ∀ v ∈ src.toList, v.oneCell' = true) :
    ∃ w', (Builtin.copy_ #[T, T] ty #[.slice (some ⟨g, 0, none⟩) n n, .slice (some ⟨h, 0, none⟩) n n]).run P w = .ok (goInt n) w' ∧ Copied g src t w w' := by
  have hl := run_loadCells_list (P := P) w ⟨h, 0, none⟩ src.toList (fun j v hv => by
    have hadd : (⟨h, 0, none⟩ : Addr).add j = ⟨h, j, none⟩ := by unfold Addr.add; split <;> simp_all
    rw [hadd, cell_of_row w h j src t' _ hh]; simpa using hv)
  have hst := run_storeCells_at P g 0 t src.toList 0 cur w hg (by simp; omega) h3
  have e1 : (cur.toList.take (0 + 0) ++ src.toList ++ cur.toList.drop (0 + 0 + src.toList.length)).toArray = src := by
    rw [List.drop_of_length_le (by simp; omega)]; simp
  rw [e1] at hst
  have e2 : src.toList.length = n * size := by simpa using h2
  rw [e2] at hl
  refine ⟨w.setRow g src, ?_, ⟨⟨rfl, rfl, rfl, by simp, fun k hk => setRow_other w g k src hk⟩, setRow_heap w g cur src t _ hg, by simp⟩⟩
  simp [Builtin.copy_, run_underlying hu, Builtin.lenOf, Builtin.firstCells, sizeOf, typeInfo, hi, hsz, hl, hst]

/-- Partly filled rows. -/
def ConvP (w : World) (b n k : Nat) (f : Nat → Int × Int) : Prop := ∃ c, w.heap[b]? = some (.cells c 31 (0, 0)) ∧ c.size = n * 2 ∧ ∀ i, i < k → c[i * 2]? = some (.int .i32 (f i).1) ∧ c[i * 2 + 1]? = some (.int .u8 (f i).2)
def MarksP (w : World) (b n k : Nat) (g : Nat → Int) : Prop := ∃ c, w.heap[b]? = some (.cells c 35 (0, 0)) ∧ c.size = n * 3 ∧ ∀ i, i < k → c[i * 3]? = some (.int .i64 i) ∧ c[i * 3 + 1]? = some (.int .i64 (g i)) ∧ c[i * 3 + 2]? = some (.int .u64 ((i : Int) + 1))

theorem ConvP.whole {w : World} {b n : Nat} {f : Nat → Int × Int} (h : ConvP w b n n f) : Conv w b n f := by obtain ⟨c, h1, h2, h3⟩ := h; exact ⟨c, h1, h2, h3⟩
theorem MarksP.whole {w : World} {b n : Nat} {g : Nat → Int} (h : MarksP w b n n g) : Marks w b n g := by obtain ⟨c, h1, h2, h3⟩ := h; exact ⟨c, h1, h2, h3⟩
theorem ConvP.of_heap {w w' : World} {b n k : Nat} {f : Nat → Int × Int} (h : ConvP w b n k f) (e : w'.heap[b]? = w.heap[b]?) : ConvP w' b n k f := by obtain ⟨c, h1, h2⟩ := h; exact ⟨c, e.trans h1, h2⟩
theorem MarksP.of_heap {w w' : World} {b n k : Nat} {g : Nat → Int} (h : MarksP w b n k g) (e : w'.heap[b]? = w.heap[b]?) : MarksP w' b n k g := by obtain ⟨c, h1, h2⟩ := h; exact ⟨c, e.trans h1, h2⟩

theorem ConvP.there {w : World} {b n k i : Nat} {f : Nat → Int × Int} (h : ConvP w b n k f) (hi : i < n) :
    (∃ u, w.cell? ⟨b, i * 2, none⟩ = some u) ∧ (∃ u, w.cell? ⟨b, i * 2 + 1, none⟩ = some u) ∧ w.frozen? ⟨b, i * 2, none⟩ = false ∧ w.frozen? ⟨b, i * 2 + 1, none⟩ = false := by
  obtain ⟨c, h1, h2, _⟩ := h
  refine ⟨?_, ?_, frozen_of_row _ _ _ _ _ h1, frozen_of_row _ _ _ _ _ h1⟩
  · rw [cell_of_row _ _ _ _ _ _ h1, Array.getElem?_eq_getElem (by omega)]; exact ⟨_, rfl⟩
  · rw [cell_of_row _ _ _ _ _ _ h1, Array.getElem?_eq_getElem (by omega)]; exact ⟨_, rfl⟩
theorem MarksP.there {w : World} {b n k i : Nat} {g : Nat → Int} (h : MarksP w b n k g) (hi : i < n) :
    (∃ u, w.cell? ⟨b, i * 3, none⟩ = some u) ∧ (∃ u, w.cell? ⟨b, i * 3 + 1, none⟩ = some u) ∧ (∃ u, w.cell? ⟨b, i * 3 + 2, none⟩ = some u) ∧ w.frozen? ⟨b, i * 3, none⟩ = false ∧ w.frozen? ⟨b, i * 3 + 1, none⟩ = false ∧ w.frozen? ⟨b, i * 3 + 2, none⟩ = false := by
  obtain ⟨c, h1, h2, _⟩ := h
  refine ⟨?_, ?_, ?_, frozen_of_row _ _ _ _ _ h1, frozen_of_row _ _ _ _ _ h1, frozen_of_row _ _ _ _ _ h1⟩
  all_goals (rw [cell_of_row _ _ _ _ _ _ h1, Array.getElem?_eq_getElem (by omega)]; exact ⟨_, rfl⟩)

theorem ConvP.step {w : World} {b n k : Nat} {f : Nat → Int × Int} (h : ConvP w b n k f) (hk : k < n) :
    ConvP ((w.setCell ⟨b, k * 2, none⟩ (.int .i32 (f k).1)).setCell ⟨b, k * 2 + 1, none⟩ (.int .u8 (f k).2)) b n (k + 1) f := by
  obtain ⟨c, h1, h2, h3⟩ := h
  refine ⟨_, heap_setCell_same _ _ _ _ _ _ (heap_setCell_same _ _ _ _ _ _ h1), by simp [h2], fun i hi => ?_⟩
  simp only [Array.getElem?_setIfInBounds, Array.size_setIfInBounds]
  rcases Nat.lt_or_ge i k with hlt | hge
  · obtain ⟨d0, d1⟩ := h3 i hlt
    refine ⟨?_, ?_⟩
    all_goals (repeat (rw [if_neg (by omega)]))
    all_goals assumption
  · obtain rfl : i = k := by omega
    refine ⟨?_, ?_⟩
    all_goals (repeat (rw [if_neg (by omega)]))
    all_goals (rw [if_pos (by omega), if_pos (by omega)])

theorem MarksP.step {w : World} {b n k : Nat} {g : Nat → Int} (h : MarksP w b n k g) (hk : k < n) :
    MarksP (((w.setCell ⟨b, k * 3, none⟩ (.int .i64 k)).setCell ⟨b, k * 3 + 1, none⟩ (.int .i64 (g k))).setCell ⟨b, k * 3 + 2, none⟩ (.int .u64 ((k : Int) + 1))) b n (k + 1) g := by
  obtain ⟨c, h1, h2, h3⟩ := h
  refine ⟨_, heap_setCell_same _ _ _ _ _ _ (heap_setCell_same _ _ _ _ _ _ (heap_setCell_same _ _ _ _ _ _ h1)), by simp [h2], fun i hi => ?_⟩
  simp only [Array.getElem?_setIfInBounds, Array.size_setIfInBounds]
  rcases Nat.lt_or_ge i k with hlt | hge
  · obtain ⟨d0, d1, d2⟩ := h3 i hlt
    refine ⟨?_, ?_, ?_⟩
    all_goals (repeat (rw [if_neg (by omega)]))
    all_goals assumption
  · obtain rfl : i = k := by omega
    refine ⟨?_, ?_, ?_⟩
    all_goals (repeat (rw [if_neg (by omega)]))
    all_goals (rw [if_pos (by omega), if_pos (by omega)])

/-- Every cell of such a row is one cell. -/
theorem row2_one {c : Array Value} {n : Nat} {f : Nat → Int × Int} (h : Row2 c n f) : ∀ v ∈ c.toList, v.oneCell' = true := by
  intro v hv
  obtain ⟨j, hj, rfl⟩ := List.getElem_of_mem hv
  have hj' : j < c.size := by simpa using hj
  have hs := h.1
  rcases Nat.mod_two_eq_zero_or_one j with e | e
  · have := (h.2 (j / 2) (by omega)).1
    rw [show j / 2 * 2 = j by omega, Array.getElem?_eq_getElem hj'] at this
    simp only [Option.some.injEq] at this
    simp [this, Value.oneCell']
  · have := (h.2 (j / 2) (by omega)).2
    rw [show j / 2 * 2 + 1 = j by omega, Array.getElem?_eq_getElem hj'] at this
    simp only [Option.some.injEq] at this
    simp [this, Value.oneCell']
theorem row3_one {c : Array Value} {n : Nat} {g : Nat → Int} (h : Row3 c n g) : ∀ v ∈ c.toList, v.oneCell' = true := by
  intro v hv
  obtain ⟨j, hj, rfl⟩ := List.getElem_of_mem hv
  have hj' : j < c.size := by simpa using hj
  have hs := h.1
  obtain ⟨d0, d1, d2⟩ := h.2 (j / 3) (by omega)
  rcases (show j % 3 = 0 ∨ j % 3 = 1 ∨ j % 3 = 2 by omega) with e | e | e
  · rw [show j / 3 * 3 = j by omega, Array.getElem?_eq_getElem hj'] at d0
    simp only [Option.some.injEq] at d0
    simp [d0, Value.oneCell']
  · rw [show j / 3 * 3 + 1 = j by omega, Array.getElem?_eq_getElem hj'] at d1
    simp only [Option.some.injEq] at d1
    simp [d1, Value.oneCell']
  · rw [show j / 3 * 3 + 2 = j by omega, Array.getElem?_eq_getElem hj'] at d2
    simp only [Option.some.injEq] at d2
    simp [d2, Value.oneCell']

/-- The marks' counts: the steps added up, never above n. -/
def curM (g : Nat → Int) (n : Nat) : Nat → Nat
  | 0 => 0
  | i + 1 => min (curM g n i + (g i % 3).toNat) n
theorem curM_le (g : Nat → Int) (n i : Nat) : curM g n i ≤ n := by
  cases i with
  | zero => exact Nat.zero_le _
  | succ i => exact Nat.min_le_right _ _
theorem curM_step (g : Nat → Int) (n i : Nat) : curM g n i ≤ curM g n (i + 1) := by
  have := curM_le g n i
  simp only [curM]; omega
theorem curM_mono (g : Nat → Int) (n : Nat) : ∀ i j, i ≤ j → curM g n i ≤ curM g n j := by
  intro i j h
  induction j with
  | zero => have : i = 0 := by omega
            subst this; exact Nat.le_refl _
  | succ j ih =>
    by_cases e : i = j + 1
    · subst e; exact Nat.le_refl _
    · exact Nat.le_trans (ih (by omega)) (curM_step g n j)
end Go.Proofs.Ybulkamzi
