import Derived.Test.YbulkamziNewRes
namespace Go.Proofs.Ybulkamzi
open Go.RowKit

theorem z215 : Yba.zeroCells193[215]? = some (.pointer none) := by kernel_rfl
theorem z216 : Yba.zeroCells193[216]? = some (.int .i64 0) := by kernel_rfl
theorem z217 : Yba.zeroCells193[217]? = some (.int .i64 0) := by kernel_rfl
theorem z218 : Yba.zeroCells193[218]? = some (.int .i64 0) := by kernel_rfl

/-- The manager and its table, set up. -/
structure SetUp (w wc : World) (a0 a1 a2 : Int) : Prop where
  mgr : Mgr wc w.heap.size (w.heap.size + 1) (some ⟨w.heap.size + 1, 0, none⟩) a1 a0 a2
  below : Below w.heap.size w wc
  size : wc.heap.size = w.heap.size + 2
  tb : ∃ c, wc.heap[w.heap.size + 1]? = some (.cells c 196 (0, 0))
theorem set_up (w : World) (Z : Array Value) (a0 a1 a2 : Int) (h : 218 < Z.size) :
    SetUp w ((w.alloc (.cells ((((Z.setIfInBounds 215 (.pointer (some ⟨w.heap.size + 1, 0, none⟩))).setIfInBounds 217 (.int .i64 a0)).setIfInBounds 216 (.int .i64 a1)).setIfInBounds 218 (.int .i64 a2)) 193)).alloc (.cells #[.slice none 0 0] 196)) a0 a1 a2 := by
  have e1 := heap_alloc2_old w (.cells ((((Z.setIfInBounds 215 (.pointer (some ⟨w.heap.size + 1, 0, none⟩))).setIfInBounds 217 (.int .i64 a0)).setIfInBounds 216 (.int .i64 a1)).setIfInBounds 218 (.int .i64 a2)) 193) (.cells #[.slice none 0 0] 196)
  have e2 := heap_alloc2_new w (.cells ((((Z.setIfInBounds 215 (.pointer (some ⟨w.heap.size + 1, 0, none⟩))).setIfInBounds 217 (.int .i64 a0)).setIfInBounds 216 (.int .i64 a1)).setIfInBounds 218 (.int .i64 a2)) 193) (.cells #[.slice none 0 0] 196)
  have hb : Below w.heap.size w ((w.alloc (.cells ((((Z.setIfInBounds 215 (.pointer (some ⟨w.heap.size + 1, 0, none⟩))).setIfInBounds 217 (.int .i64 a0)).setIfInBounds 216 (.int .i64 a1)).setIfInBounds 218 (.int .i64 a2)) 193)).alloc (.cells #[.slice none 0 0] 196)) := ((Below.refl _ _).alloc (Nat.le_refl _) _).alloc (by simp) _
  have hz : ((w.alloc (.cells ((((Z.setIfInBounds 215 (.pointer (some ⟨w.heap.size + 1, 0, none⟩))).setIfInBounds 217 (.int .i64 a0)).setIfInBounds 216 (.int .i64 a1)).setIfInBounds 218 (.int .i64 a2)) 193)).alloc (.cells #[.slice none 0 0] 196)).heap.size = w.heap.size + 2 := by simp
  generalize (w.alloc (.cells ((((Z.setIfInBounds 215 (.pointer (some ⟨w.heap.size + 1, 0, none⟩))).setIfInBounds 217 (.int .i64 a0)).setIfInBounds 216 (.int .i64 a1)).setIfInBounds 218 (.int .i64 a2)) 193)).alloc (.cells #[.slice none 0 0] 196) = W at *
  refine ⟨⟨?_, ?_, ?_, ?_, frozen_of_row _ _ _ _ _ e1, frozen_of_row _ _ _ _ _ e1, frozen_of_row _ _ _ _ _ e1, by simp [World.shape?, e2]⟩, hb, hz, _, e2⟩
  all_goals rw [cell_of_row _ _ _ _ _ _ e1]
  all_goals simp only [Array.getElem?_setIfInBounds, Array.size_setIfInBounds]
  all_goals simp
  all_goals omega

theorem Mgr.of_heap {w w' : World} {mb tb : Nat} {t : Option Addr} {l q m : Int} (h : Mgr w mb tb t l q m) (e : w'.heap[mb]? = w.heap[mb]?) (e2 : w'.heap[tb]? = w.heap[tb]?) : Mgr w' mb tb t l q m :=
  ⟨(World.cell?_of_block e).trans h.table, (World.cell?_of_block e).trans h.listedC, (World.cell?_of_block e).trans h.queuedC, (World.cell?_of_block e).trans h.limitC, (World.frozen?_of_block e).trans h.f0, (World.frozen?_of_block e).trans h.f1, (World.frozen?_of_block e).trans h.f2, by
    have := h.shape
    unfold World.shape? at this ⊢
    rw [e2]; exact this⟩

theorem qe_at {w wc : World} {a0 a1 a2 : Int} (h : SetUp w wc a0 a1 a2) (x : Int) (hx : x = 0 ∨ x = 1) (t n : Array Value) (h4 : n[4]? = some (.pointer (some ⟨w.heap.size + 2 + 1, 9, none⟩))) (h5 : n[5]? = some (.int .u32 x))
    (h15 : n[15]? = some (.pointer (some ⟨w.heap.size + 2, 0, none⟩))) (h16 : n[16]? = some (.pointer (some ⟨w.heap.size + 2, 0, none⟩))) (hn : n.size = 18) :
    Calls Yba.prog 23 #[.pointer (some ⟨w.heap.size, 0, none⟩), .pointer (some ⟨w.heap.size + 2 + 1, 0, none⟩)] ((wc.alloc (.cells t 101)).alloc (.cells n 237)).drew fun e w' =>
      e = .returned (.tuple #[]) ∧ After ((wc.alloc (.cells t 101)).alloc (.cells n 237)).drew w' w.heap.size (w.heap.size + 2 + 1) (w.heap.size + 1) a1 a0 a2 := by
  have hs := h.size
  have e1 : ((wc.alloc (.cells t 101)).alloc (.cells n 237)).drew.heap[w.heap.size + 2]? = some (.cells t 101 (0, 0)) := by rw [heap_drew, ← hs]; exact heap_alloc2_old _ _ _
  have e2 : ((wc.alloc (.cells t 101)).alloc (.cells n 237)).drew.heap[w.heap.size + 2 + 1]? = some (.cells n 237 (0, 0)) := by rw [heap_drew, ← hs]; exact heap_alloc2_new _ _ _
  have old : ∀ b, b < w.heap.size + 2 → ((wc.alloc (.cells t 101)).alloc (.cells n 237)).drew.heap[b]? = wc.heap[b]? := fun b hb => by
    rw [heap_drew]; exact (Below.heap_alloc _ _ _ (by simp; omega)).trans (Below.heap_alloc _ _ _ (by omega))
  generalize ((wc.alloc (.cells t 101)).alloc (.cells n 237)).drew = W at *
  exact qe_nested w.heap.size (w.heap.size + 2 + 1) (w.heap.size + 1) (w.heap.size + 2) x a0 a1 a2 hx W (by rw [cell_of_row _ _ _ _ _ _ e2]; exact h5) (frozen_of_row _ _ _ _ _ e2) (by rw [cell_of_row _ _ _ _ _ _ e2]; exact h4) (by rw [cell_of_row _ _ _ _ _ _ e2]; exact h15) (by rw [cell_of_row _ _ _ _ _ _ e2]; exact h16)
    n t 101 e2 hn e1 (by omega) (by omega) (h.mgr.of_heap (old _ (by omega)) (old _ (by omega)))

set_option maxRecDepth 100000 in
set_option maxHeartbeats 1000000 in
theorem law_c (a0 a1 a2 : Int) (a3 a4 : Bool) (w : World) :
    Calls Yba.prog 5 #[.int .i64 a0, .int .i64 a1, .int .i64 a2, .bool a3, .bool a4] w fun e w' => e = .returned (.bool true) ∧ Below w.heap.size w w' := by
  have hZ : 218 < Yba.zeroCells193.size := by
    rcases Nat.lt_or_ge 218 Yba.zeroCells193.size with h | h
    · exact h
    · have := z218; rw [Array.getElem?_eq_none h] at this; cases this
  have y215 := z215
  have y216 := z216
  have y217 := z217
  have y218 := z218
  go_enter Yba.func5, Yba.ntmps5
  go_upto_region 2 with fail
  generalize Yba.zeroCells193 = Z at *
  have hm1 : ∀ o, ((w.alloc (.cells Z 193)).alloc o).cell? ⟨w.heap.size, 215, none⟩ = some (.pointer none) := fun o => by rw [World.cell?_alloc_past _ _ _ (by simp), World.cell?_alloc_new]; exact y215
  go_upto_region 6 with (go_at_call 20; refine (nt_store w.heap.size 215 (w.heap.size + 1) (.pointer none) (.slice none 0 0) _ ?_ ?_ ?_).mono ?_; (simp [y215]); (simp); (simp); rintro e w' ⟨rfl, rfl⟩)
  have HZ := hidE hZ
  clear hm1 hZ
  go_cut [] (fun wc => SetUp w wc a0 a1 a2)
  case first =>
    go_wp2
    go_meet
    case rel => exact set_up w Z a0 a1 a2 HZ.out
  case rest =>
    have hsz := hcut.size
    have HSU := hidE hcut
    clear hcut y215 y216 y217 y218 HZ
    have g0 : ∀ o, (wc.alloc o).cell? ⟨w.heap.size, 215, none⟩ = some (.pointer (some ⟨w.heap.size + 1, 0, none⟩)) := fun o => by rw [World.cell?_alloc_past _ _ _ (by omega)]; exact HSU.out.mgr.table
    have g1 : ∀ o, (wc.alloc o).cell? ⟨w.heap.size, 216, none⟩ = some (.int .i64 a1) := fun o => by rw [World.cell?_alloc_past _ _ _ (by omega)]; exact HSU.out.mgr.listedC
    have g2 : ∀ o, (wc.alloc o).cell? ⟨w.heap.size, 217, none⟩ = some (.int .i64 a0) := fun o => by rw [World.cell?_alloc_past _ _ _ (by omega)]; exact HSU.out.mgr.queuedC
    have g3 : ∀ o, (wc.alloc o).cell? ⟨w.heap.size, 218, none⟩ = some (.int .i64 a2) := fun o => by rw [World.cell?_alloc_past _ _ _ (by omega)]; exact HSU.out.mgr.limitC
    have g4 : ∀ o, (wc.alloc o).shape? (w.heap.size + 1) = some (196, 1) := fun o => by
      have := HSU.out.mgr.shape
      unfold World.shape? at this ⊢
      rw [Below.heap_alloc _ _ _ (by omega)]; exact this
    obtain ⟨j, hj, hj1⟩ := Yba.infoSome Yba.size196
    have hpe := fun (w : World) (x : Addr) => run_eql_ptr_same (P := Yba.prog) w x Yba.underlying47 hj
    clear hj hj1
    have e2 : (a2 != a2) = false := by simp
    have e1 : (a1 == a1) = true := by simp
    have e0 : (a0 == a0) = true := by simp
    cases a4
    · cases a3
      · go_wp2_with (go_at_call 21; refine (new_top _ _).mono ?_; rintro e w' ⟨rfl, rfl⟩)
        refine (set_off (w.heap.size + 2) 0 (Or.inl rfl) _ ?_ ?_).mono ?_
        · simp [go_sem, hsz]
        · simp [go_sem, hsz]
        rintro e w' ⟨rfl, rfl⟩
        go_wp2_with fail
        refine (qe_top w.heap.size (w.heap.size + 2) 0 (Or.inl rfl) _ ?_ ?_ ?_).mono ?_
        · simp [go_sem, hsz]
        · simp [go_sem, hsz]
        · simp [go_sem, hsz]
        rintro e w' ⟨rfl, rfl⟩
        go_wp2_with fail
        refine (has_zero (w.heap.size + 2) _ ?_).mono ?_
        · simp [go_sem, hsz]
        rintro e w' ⟨rfl, rfl⟩
        go_wp2_with fail
        refine (nt_load w.heap.size 215 (w.heap.size + 1) _ ?_ ?_).mono ?_
        · simp [g0]
        · simp [g4]
        rintro e w' ⟨rfl, rfl⟩
        go_wp2
        go_ret
        exact ⟨rfl, HSU.out.below.alloc (by omega) _⟩
      · go_wp2_with (go_at_call 21; refine (new_top _ _).mono ?_; rintro e w' ⟨rfl, rfl⟩)
        refine (set_on (w.heap.size + 2) _ ?_ ?_).mono ?_
        · simp [go_sem, hsz]
        · simp [go_sem, hsz]
        rintro e w' ⟨rfl, rfl⟩
        go_wp2_with fail
        refine (qe_top w.heap.size (w.heap.size + 2) 1 (Or.inr rfl) _ ?_ ?_ ?_).mono ?_
        · simp [go_sem, hsz]
        · simp [go_sem, hsz]
        · simp [go_sem, hsz]
        rintro e w' ⟨rfl, rfl⟩
        go_wp2_with fail
        refine (has_zero (w.heap.size + 2) _ ?_).mono ?_
        · simp [go_sem, hsz]
        rintro e w' ⟨rfl, rfl⟩
        go_wp2_with fail
        refine (nt_load w.heap.size 215 (w.heap.size + 1) _ ?_ ?_).mono ?_
        · simp [g0]
        · simp [g4]
        rintro e w' ⟨rfl, rfl⟩
        go_wp2
        go_ret
        exact ⟨rfl, HSU.out.below.alloc (by omega) _⟩
    · cases a3
      · go_wp2_with (first | (go_at_call_of 21 (Value.pointer none); refine (new_top _ _).mono ?_; rintro e w' ⟨rfl, rfl⟩))
        refine (new_nested (w.heap.size + 2) _ _ ?_).mono ?_
        · simp [go_sem, hsz]
        rintro e w' ⟨rfl, rfl⟩
        go_wp2_with fail
        refine (set_off (w.heap.size + 2 + 1) 0 (Or.inl rfl) _ ?_ ?_).mono ?_
        · simp [go_sem, hsz]
        · simp [go_sem, hsz]
        rintro e w' ⟨rfl, rfl⟩
        go_wp2_with fail
        refine (qe_at HSU.out 0 (Or.inl rfl) _ _ (by rfl) (by rfl) (by rfl) (by rfl) (by rfl)).mono ?_
        rintro e w4 ⟨rfl, haf⟩
        have hb4 := (((HSU.out.below.alloc (by omega) _).alloc (by simp; omega) _).drew).trans (haf.below w.heap.size (Nat.le_refl _) (by omega))
        have HB4 := hidE hb4
        have q0 := haf.mgr.table
        have q1 := haf.mgr.listedC
        have q2 := haf.mgr.queuedC
        have q3 := haf.mgr.limitC
        have q4 := haf.mgr.shape
        have q5 := haf.flag
        have eq : (wrap64 (a0 - 1) != wrap64 (a0 - 1)) = false := by simp
        clear haf hb4 g0 g1 g2 g3 g4 hsz
        by_cases hy : wrap64 (a0 - 1) = 0
        · rw [if_pos hy] at q0 q1
          have ey : (wrap64 (a0 - 1) == 0) = true := by simp [hy]
          clear hy
          go_wp2_with (first | (go_at_call 24; refine (has_zero _ _ q5).mono ?_; rintro e w' ⟨rfl, rfl⟩) | (go_at_call 25; refine (nt_load_nil _ _ _ q0).mono ?_; rintro e w' ⟨rfl, rfl⟩))
          go_ret
          exact ⟨rfl, HB4.out⟩
        · rw [if_neg hy] at q0 q1
          have ey : (wrap64 (a0 - 1) == 0) = false := by simp [hy]
          clear hy
          go_wp2_with (first | (go_at_call 24; refine (has_zero _ _ q5).mono ?_; rintro e w' ⟨rfl, rfl⟩) | (go_at_call 25; refine (nt_load _ _ _ _ q0 q4).mono ?_; rintro e w' ⟨rfl, rfl⟩))
          go_ret
          exact ⟨rfl, HB4.out⟩
      · go_wp2_with (first | (go_at_call_of 21 (Value.pointer none); refine (new_top _ _).mono ?_; rintro e w' ⟨rfl, rfl⟩))
        refine (new_nested (w.heap.size + 2) _ _ ?_).mono ?_
        · simp [go_sem, hsz]
        rintro e w' ⟨rfl, rfl⟩
        go_wp2_with fail
        refine (set_on (w.heap.size + 2 + 1) _ ?_ ?_).mono ?_
        · simp [go_sem, hsz]
        · simp [go_sem, hsz]
        rintro e w' ⟨rfl, rfl⟩
        go_wp2_with fail
        refine (qe_at HSU.out 1 (Or.inr rfl) _ _ (by rfl) (by rfl) (by rfl) (by rfl) (by rfl)).mono ?_
        rintro e w4 ⟨rfl, haf⟩
        have hb4 := (((HSU.out.below.alloc (by omega) _).alloc (by simp; omega) _).drew).trans (haf.below w.heap.size (Nat.le_refl _) (by omega))
        have HB4 := hidE hb4
        have q0 := haf.mgr.table
        have q1 := haf.mgr.listedC
        have q2 := haf.mgr.queuedC
        have q3 := haf.mgr.limitC
        have q4 := haf.mgr.shape
        have q5 := haf.flag
        have eq : (wrap64 (a0 - 1) != wrap64 (a0 - 1)) = false := by simp
        clear haf hb4 g0 g1 g2 g3 g4 hsz
        by_cases hy : wrap64 (a0 - 1) = 0
        · rw [if_pos hy] at q0 q1
          have ey : (wrap64 (a0 - 1) == 0) = true := by simp [hy]
          clear hy
          go_wp2_with (first | (go_at_call 24; refine (has_zero _ _ q5).mono ?_; rintro e w' ⟨rfl, rfl⟩) | (go_at_call 25; refine (nt_load_nil _ _ _ q0).mono ?_; rintro e w' ⟨rfl, rfl⟩))
          go_ret
          exact ⟨rfl, HB4.out⟩
        · rw [if_neg hy] at q0 q1
          have ey : (wrap64 (a0 - 1) == 0) = false := by simp [hy]
          clear hy
          go_wp2_with (first | (go_at_call 24; refine (has_zero _ _ q5).mono ?_; rintro e w' ⟨rfl, rfl⟩) | (go_at_call 25; refine (nt_load _ _ _ _ q0 q4).mono ?_; rintro e w' ⟨rfl, rfl⟩))
          go_ret
          exact ⟨rfl, HB4.out⟩
end Go.Proofs.Ybulkamzi
