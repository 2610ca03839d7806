import Derived.Test.YbulkamxsFind
import Derived.BigRegion
namespace Go.Proofs.Ybulkamxs
open Go.RowKit

theorem Yba.info5 : (Yba.prog.info? 5).map (fun i => (i.zero, i.size, i.bytes)) = some (some (.int .u8 0), 1, 1) := by kernel_rfl
theorem Yba.info44 : (Yba.prog.info? 44).map (fun i => (i.zero, i.size, i.bytes)) = some (some (.agg #[.int .u32 0, .int .u8 0, .int .u32 0, .slice none 0 0]), 4, 40) := by kernel_rfl

/-- The items as they came in: three cells each. -/
def Items (w : World) (a : Option Addr) (n : Nat) (C F V : Nat → Int) : Prop :=
  ∀ i, i < n → ∃ b off, a = some ⟨b, off, none⟩ ∧ w.cell? ⟨b, off + i * 3, none⟩ = some (.int .u32 (C i)) ∧ w.cell? ⟨b, off + i * 3 + 1, none⟩ = some (.int .u8 (F i)) ∧
    w.cell? ⟨b, off + i * 3 + 2, none⟩ = some (.int .u32 (V i))

/-- What holds of the two made rows after k rounds. -/
structure Mid (w : World) (n k : Nat) (C F V : Nat → Int) (wr : World) : Prop where
  below : Below w.heap.size w wr
  size : wr.heap.size = w.heap.size + 2
  back : ∃ c, wr.heap[w.heap.size]? = some (.cells c 5 (0, 0)) ∧ c.size = n
  avps : ∃ c, wr.heap[w.heap.size + 1]? = some (.cells c 44 (0, 0)) ∧ c.size = n * 4
  done : Avps wr (w.heap.size + 1) k C F V (fun i => .slice (some ⟨w.heap.size, i, none⟩) 1 1)

theorem cell_some {w : World} {g j : Nat} {cs : Array Value} {t : TypeId} (hg : w.heap[g]? = some (.cells cs t (0, 0))) (hj : j < cs.size) : ∃ u, w.cell? ⟨g, j, none⟩ = some u := by
  rw [cell_of_row w g j cs t _ hg]; simp [hj]

theorem mid_start (w : World) (n : Nat) (C F V : Nat → Int) : Mid w n 0 C F V ((w.alloc (.cells (madeCells #[.int .u8 0] n) 5)).alloc (.cells (madeCells #[.int .u32 0, .int .u8 0, .int .u32 0, .slice none 0 0] (n * 4)) 44)) where
  below := ((Below.refl _ _).alloc (Nat.le_refl _) _).alloc (by simp) _
  size := by simp
  back := ⟨_, heap_alloc2_old _ _ _, size_madeCells _ _⟩
  avps := ⟨_, heap_alloc2_new _ _ _, size_madeCells _ _⟩
  done := fun i h => absurd h (Nat.not_lt_zero _)

/-- An AVP row as an array. -/
def Row4 (c : Array Value) (k : Nat) (C F V : Nat → Int) (D : Nat → Value) : Prop :=
  ∀ i, i < k → c[i * 4]? = some (.int .u32 (C i)) ∧ c[i * 4 + 1]? = some (.int .u8 (F i)) ∧ c[i * 4 + 2]? = some (.int .u32 (V i)) ∧ c[i * 4 + 3]? = some (D i)
theorem avps_iff {W : World} {g k : Nat} {c : Array Value} {t : TypeId} {fr : Nat × Nat} {C F V : Nat → Int} {D : Nat → Value} (e : W.heap[g]? = some (.cells c t fr)) : Avps W g k C F V D ↔ Row4 c k C F V D := by
  unfold Avps Row4
  simp only [cell_of_row _ _ _ _ _ _ e]
theorem row4_step {c : Array Value} {k n : Nat} {C F V : Nat → Int} {D : Nat → Value} (hs : c.size = n * 4) (hk : k < n) (h : Row4 c k C F V D) :
    Row4 ((((c.setIfInBounds (k * 4) (.int .u32 (C k))).setIfInBounds (k * 4 + 1) (.int .u8 (F k))).setIfInBounds (k * 4 + 2) (.int .u32 (V k))).setIfInBounds (k * 4 + 3) (D k)) (k + 1) C F V D := by
  intro i hi
  simp only [Array.getElem?_setIfInBounds, Array.size_setIfInBounds]
  rcases Nat.lt_or_ge i k with hlt | hge
  · obtain ⟨d0, d1, d2, d3⟩ := h i hlt
    refine ⟨?_, ?_, ?_, ?_⟩
    all_goals (repeat (rw [if_neg (by omega)]))
    all_goals assumption
  · obtain rfl : i = k := by omega
    refine ⟨?_, ?_, ?_, ?_⟩
    all_goals (repeat (rw [if_neg (by omega)]))
    all_goals (rw [if_pos (by omega), if_pos (by omega)])

/-- Four stores side by side into one row. -/
theorem store4 (W : World) (g o : Nat) (c : Array Value) (t : TypeId) (hg : W.heap[g]? = some (.cells c t (0, 0))) (a b d e : Value) :
    ((((W.setCell ⟨g, o, none⟩ a).setCell ⟨g, o + 1, none⟩ b).setCell ⟨g, o + 2, none⟩ d).setCell ⟨g, o + 3, none⟩ e).heap[g]? = some (.cells ((((c.setIfInBounds o a).setIfInBounds (o + 1) b).setIfInBounds (o + 2) d).setIfInBounds (o + 3) e) t (0, 0)) ∧
    (∀ k, k ≠ g → ((((W.setCell ⟨g, o, none⟩ a).setCell ⟨g, o + 1, none⟩ b).setCell ⟨g, o + 2, none⟩ d).setCell ⟨g, o + 3, none⟩ e).heap[k]? = W.heap[k]?) := by
  refine ⟨heap_setCell_same _ _ _ _ _ _ (heap_setCell_same _ _ _ _ _ _ (heap_setCell_same _ _ _ _ _ _ (heap_setCell_same _ _ _ _ _ _ hg))), fun k hk => ?_⟩
  exact (heap_setCell_other _ ⟨g, o + 3, none⟩ k _ hk).trans ((heap_setCell_other _ ⟨g, o + 2, none⟩ k _ hk).trans ((heap_setCell_other _ ⟨g, o + 1, none⟩ k _ hk).trans (heap_setCell_other _ ⟨g, o, none⟩ k _ hk)))

theorem Mid.drew {w wr : World} {n k : Nat} {C F V : Nat → Int} (h : Mid w n k C F V wr) : Mid w n k C F V wr.drew := ⟨h.below.drew, h.size, h.back, h.avps, h.done⟩

theorem mid_step {w wr : World} {n k : Nat} {C F V : Nat → Int} (h : Mid w n k C F V wr) (hk : k < n) (x : Value) :
    Mid w n (k + 1) C F V (((((wr.setCell ⟨w.heap.size, k, none⟩ x).setCell ⟨w.heap.size + 1, k * 4, none⟩ (.int .u32 (C k))).setCell ⟨w.heap.size + 1, k * 4 + 1, none⟩ (.int .u8 (F k))).setCell
      ⟨w.heap.size + 1, k * 4 + 2, none⟩ (.int .u32 (V k))).setCell ⟨w.heap.size + 1, k * 4 + 3, none⟩ (.slice (some ⟨w.heap.size, k, none⟩) 1 1)).drew := by
  obtain ⟨c1, h1, z1⟩ := h.back
  obtain ⟨c2, h2, z2⟩ := h.avps
  have g1 := heap_setCell_other wr ⟨w.heap.size, k, none⟩ (w.heap.size + 1) x (by simp)
  have g2 := heap_setCell_same wr w.heap.size k c1 5 x h1
  have hb := h.below.setCell (p := ⟨w.heap.size, k, none⟩) (Nat.le_refl _) x
  have hs : (wr.setCell ⟨w.heap.size, k, none⟩ x).heap.size = w.heap.size + 2 := (World.size_setCell _ _ _).trans h.size
  generalize wr.setCell ⟨w.heap.size, k, none⟩ x = W at *
  obtain ⟨e1, e2⟩ := store4 W (w.heap.size + 1) (k * 4) c2 44 (g1.trans h2) (.int .u32 (C k)) (.int .u8 (F k)) (.int .u32 (V k)) (.slice (some ⟨w.heap.size, k, none⟩) 1 1)
  refine Mid.drew ?_
  refine ⟨?_, ?_, ⟨_, (e2 w.heap.size (by omega)).trans g2, ?_⟩, ⟨_, e1, ?_⟩, (avps_iff e1).2 ?_⟩
  · exact ((((hb.setCell (Nat.le_succ _) _).setCell (Nat.le_succ _) _).setCell (Nat.le_succ _) _).setCell (Nat.le_succ _) _)
  · rw [World.size_setCell, World.size_setCell, World.size_setCell, World.size_setCell, hs]
  · rw [Array.size_setIfInBounds, z1]
  · rw [Array.size_setIfInBounds, Array.size_setIfInBounds, Array.size_setIfInBounds, Array.size_setIfInBounds, z2]
  · have hd := (avps_iff h2).1 h.done
    have r := row4_step (D := fun i => .slice (some ⟨w.heap.size, i, none⟩) 1 1) z2 hk hd
    exact r

set_option maxHeartbeats 400000 in
theorem build_any (a : Option Addr) (n cap : Nat) (C F V : Nat → Int) (w : World) (hn : n ≤ 1024) (hi : Items w a n C F V) :
    Calls Yba.prog 13 #[.slice a n cap] w fun e w' => e = .returned (.tuple #[.pointer (some ⟨w.heap.size + 2, 0, none⟩), .slice (some ⟨w.heap.size, 0, none⟩) n n]) ∧
      Below w.heap.size w w' ∧ w'.cell? ⟨w.heap.size + 2, 7, none⟩ = some (.slice (some ⟨w.heap.size + 1, 0, none⟩) n n) ∧
      Avps w' (w.heap.size + 1) n C F V (fun i => .slice (some ⟨w.heap.size, i, none⟩) 1 1) := by
  obtain ⟨i5, g1, g2, g3, g4⟩ := info_parts Yba.info5
  obtain ⟨i44, k1, k2, k3, k4⟩ := info_parts Yba.info44
  have m1 := fun w => run_make (P := Yba.prog) w 28 5 i5 (.int .u8 0) Yba.underlying28 g1 g2 .i64 .i64 n n (by omega) (by omega) (by rw [g4]; omega) (by omega)
  have m2 := fun w => run_make (P := Yba.prog) w 55 44 i44 _ Yba.underlying55 k1 k2 .i64 .i64 n n (by omega) (by omega) (by rw [k4]; omega) (by omega)
  simp only [g3, k3, Int.toNat_natCast] at m1 m2
  clear g1 g2 g3 g4 k1 k2 k3 k4
  go_enter Yba.func13, Yba.ntmps13
  go_wp2
  go_loopw [6] (fun i wr => ∃ k : Nat, k ≤ n ∧ i = .int .i64 k ∧ Mid w n k C F V wr) (fun i _ => n - (intOf i).toNat)
  case atStart => exact ⟨0, Nat.zero_le _, rfl, mid_start w n C F V⟩
  case round =>
    obtain ⟨k, hk, rfl, hmid⟩ := hrel
    by_cases hlt : k < n
    · obtain ⟨b, off, rfl, a0, a1, a2⟩ := hi k hlt
      obtain ⟨c1, h1, z1⟩ := hmid.back
      obtain ⟨c2, h2, z2⟩ := hmid.avps
      have hbl := block_lt_of_cell a0
      have p0 := (hmid.below.cell (p := ⟨b, off + k * 3, none⟩) hbl).trans a0
      have p1 := (hmid.below.cell (p := ⟨b, off + k * 3 + 1, none⟩) hbl).trans a1
      have p2 := (hmid.below.cell (p := ⟨b, off + k * 3 + 2, none⟩) hbl).trans a2
      obtain ⟨vu0, q0⟩ := cell_some h1 (show k < c1.size by omega)
      obtain ⟨vu1, r0⟩ := cell_some h2 (show k * 4 < c2.size by omega)
      obtain ⟨vu2, r1⟩ := cell_some h2 (show k * 4 + 1 < c2.size by omega)
      obtain ⟨vu3, r2⟩ := cell_some h2 (show k * 4 + 2 < c2.size by omega)
      obtain ⟨vu4, r3⟩ := cell_some h2 (show k * 4 + 3 < c2.size by omega)
      have f0 := frozen_of_row _ _ k _ _ h1
      have f1 := frozen_of_row _ _ (k * 4) _ _ h2
      have f2 := frozen_of_row _ _ (k * 4 + 1) _ _ h2
      have f3 := frozen_of_row _ _ (k * 4 + 2) _ _ h2
      have f4 := frozen_of_row _ _ (k * 4 + 3) _ _ h2
      clear m1 m2 a0 a1 a2 hi
      clear h1 h2 z1 z2
      go_wp2
      go_region
      go_wp2
      go_roundw
      case rel => exact ⟨k + 1, by omega, by go_num, mid_step hmid hlt _⟩
      case measure => simp [intOf]; omega
    · have hkn : k = n := by omega
      subst hkn
      clear m1 m2 hi
      have hsz := hmid.size
      go_wp2
      go_ret2
      refine ⟨rfl, hmid.below.alloc (by omega) _, ?_, ?_⟩
      · rw [← hsz]; simp
      · intro i hi
        obtain ⟨d0, d1, d2, d3⟩ := hmid.done i hi
        refine ⟨?_, ?_, ?_, ?_⟩
        all_goals (rw [World.cell?_alloc_lt _ _ _ (by simp [hsz])]; assumption)
end Go.Proofs.Ybulkamxs
