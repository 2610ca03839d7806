import Derived.Test.YbulkamziAtomic
import Derived.Deep.CutBlock
import Derived.Deep.DeepCutAuto
import Derived.BigQuiet
import Derived.Deep.RegionWith
namespace Go.Proofs.Ybulkamzi
open Go.RowKit
theorem hidE {p : Prop} (h : p) : Hid p := h

/-- The Manager's block as the queue index sees it. -/
structure Mgr (w : World) (mb tb : Nat) (t : Option Addr) (listed queued limit : Int) : Prop where
  table : w.cell? ⟨mb, 215, none⟩ = some (.pointer t)
  listedC : w.cell? ⟨mb, 216, none⟩ = some (.int .i64 listed)
  queuedC : w.cell? ⟨mb, 217, none⟩ = some (.int .i64 queued)
  limitC : w.cell? ⟨mb, 218, none⟩ = some (.int .i64 limit)
  f0 : w.frozen? ⟨mb, 215, none⟩ = false
  f1 : w.frozen? ⟨mb, 216, none⟩ = false
  f2 : w.frozen? ⟨mb, 217, none⟩ = false
  shape : w.shape? tb = some (196, 1)

set_option maxHeartbeats 400000 in
theorem qe_top (mb rb : Nat) (x : Int) (hx : x = 0 ∨ x = 1) (w : World) (hf : w.cell? ⟨rb, 5, none⟩ = some (.int .u32 x)) (hz : w.frozen? ⟨rb, 5, none⟩ = false) (he : w.cell? ⟨rb, 4, none⟩ = some (.pointer none)) :
    Calls Yba.prog 23 #[.pointer (some ⟨mb, 0, none⟩), .pointer (some ⟨rb, 0, none⟩)] w fun e w' => e = .returned (.tuple #[]) ∧ w' = w.setCell ⟨rb, 5, none⟩ (.int .u32 0) := by
  obtain ⟨j, hj, _⟩ := Yba.infoSome (t := 101) (k := 9) (by kernel_rfl)
  have hpe := fun (w : World) (x : Addr) => run_eql_ptr_same (P := Yba.prog) w x Yba.underlying61 hj
  have he2 : (w.setCell ⟨rb, 5, none⟩ (.int .u32 0)).cell? ⟨rb, 4, none⟩ = some (.pointer none) := by rw [World.cell?_setCell_other _ _ _ _ (by simp)]; exact he
  clear hj
  go_enter Yba.func23, Yba.ntmps23
  go_wp2_with (first | (go_at_call 22; refine (set_off rb x hx _ hf hz).mono ?_; rintro e w' ⟨rfl, rfl⟩) | (go_at_call 42; refine (top_self rb _ he2).mono ?_; rintro e w' ⟨rfl, rfl⟩))
  first | go_end0 | refine bodyPost_ret (results_none rfl _ _ _) rfl ?_
  exact ⟨rfl, rfl⟩

theorem shape_setCell (w : World) (a : Addr) (v : Value) (b : Nat) : (w.setCell a v).shape? b = w.shape? b := by
  unfold World.shape? World.setCell
  simp only [Array.getElem?_modify]
  by_cases h : a.block = b
  · subst h
    simp only [if_true]
    cases hh : w.heap[a.block]? with
    | none => simp
    | some x => cases x <;> simp; split <;> simp
  · rw [if_neg h]

/-- What 'queueEmptied' leaves on a resource beneath a top. -/
structure After (w w' : World) (mb rb tb : Nat) (listed queued limit : Int) : Prop where
  flag : w'.cell? ⟨rb, 5, none⟩ = some (.int .u32 0)
  mgr : Mgr w' mb tb (if wrap64 (queued - 1) = 0 then none else some ⟨tb, 0, none⟩) (if wrap64 (queued - 1) = 0 then 0 else listed) (wrap64 (queued - 1)) limit
  below : ∀ B, B ≤ mb → B ≤ rb → Below B w w'

theorem after_no {w : World} {mb rb tb : Nat} {x listed queued limit : Int} (hm : Mgr w mb tb (some ⟨tb, 0, none⟩) listed queued limit) (hmr : mb ≠ rb) (hf : w.cell? ⟨rb, 5, none⟩ = some (.int .u32 x)) (hy : ¬ wrap64 (queued - 1) = 0) :
    After w ((w.setCell ⟨rb, 5, none⟩ (.int .u32 0)).setCell ⟨mb, 217, none⟩ (.int .i64 (wrap64 (queued - 1)))) mb rb tb listed queued limit := by
  have c1 : (w.setCell ⟨rb, 5, none⟩ (.int .u32 0)).cell? ⟨rb, 5, none⟩ = some (.int .u32 0) := World.cell?_setCell_same _ _ _ hf
  have oth : ∀ k, (w.setCell ⟨rb, 5, none⟩ (.int .u32 0)).cell? ⟨mb, k, none⟩ = w.cell? ⟨mb, k, none⟩ := fun k => World.cell?_setCell_other _ _ _ _ (fun e => hmr (by injection e with e1; exact e1.symm))
  refine ⟨?_, ?_, fun B h1 h2 => ((Below.refl _ _).setCell h2 _).setCell h1 _⟩
  · rw [World.cell?_setCell_other _ _ _ _ (fun e => hmr (by injection e))]; exact c1
  · rw [if_neg hy, if_neg hy]
    refine ⟨?_, ?_, ?_, ?_, ?_, ?_, ?_, ?_⟩
    · rw [World.cell?_setCell_other _ _ _ _ (by simp), oth]; exact hm.table
    · rw [World.cell?_setCell_other _ _ _ _ (by simp), oth]; exact hm.listedC
    · exact World.cell?_setCell_same _ _ _ ((oth 217).trans hm.queuedC)
    · rw [World.cell?_setCell_other _ _ _ _ (by simp), oth]; exact hm.limitC
    · rw [World.frozen?_setCell, World.frozen?_setCell]; exact hm.f0
    · rw [World.frozen?_setCell, World.frozen?_setCell]; exact hm.f1
    · rw [World.frozen?_setCell, World.frozen?_setCell]; exact hm.f2
    · rw [shape_setCell, shape_setCell]; exact hm.shape

theorem after_yes {w : World} {mb rb tb : Nat} {x listed queued limit : Int} (hm : Mgr w mb tb (some ⟨tb, 0, none⟩) listed queued limit) (hmr : mb ≠ rb) (hf : w.cell? ⟨rb, 5, none⟩ = some (.int .u32 x)) (hy : wrap64 (queued - 1) = 0) :
    After w ((((w.setCell ⟨rb, 5, none⟩ (.int .u32 0)).setCell ⟨mb, 217, none⟩ (.int .i64 (wrap64 (queued - 1)))).setCell ⟨mb, 215, none⟩ (.pointer none)).setCell ⟨mb, 216, none⟩ (.int .i64 0)) mb rb tb listed queued limit := by
  have c1 : (w.setCell ⟨rb, 5, none⟩ (.int .u32 0)).cell? ⟨rb, 5, none⟩ = some (.int .u32 0) := World.cell?_setCell_same _ _ _ hf
  have oth : ∀ k, (w.setCell ⟨rb, 5, none⟩ (.int .u32 0)).cell? ⟨mb, k, none⟩ = w.cell? ⟨mb, k, none⟩ := fun k => World.cell?_setCell_other _ _ _ _ (fun e => hmr (by injection e with e1; exact e1.symm))
  have e217 : ((w.setCell ⟨rb, 5, none⟩ (.int .u32 0)).setCell ⟨mb, 217, none⟩ (.int .i64 (wrap64 (queued - 1)))).cell? ⟨mb, 217, none⟩ = some (.int .i64 (wrap64 (queued - 1))) := World.cell?_setCell_same _ _ _ ((oth 217).trans hm.queuedC)
  have e215 : ((w.setCell ⟨rb, 5, none⟩ (.int .u32 0)).setCell ⟨mb, 217, none⟩ (.int .i64 (wrap64 (queued - 1)))).cell? ⟨mb, 215, none⟩ = some (.pointer (some ⟨tb, 0, none⟩)) := by rw [World.cell?_setCell_other _ _ _ _ (by simp), oth]; exact hm.table
  have e216 : (((w.setCell ⟨rb, 5, none⟩ (.int .u32 0)).setCell ⟨mb, 217, none⟩ (.int .i64 (wrap64 (queued - 1)))).setCell ⟨mb, 215, none⟩ (.pointer none)).cell? ⟨mb, 216, none⟩ = some (.int .i64 listed) := by
    rw [World.cell?_setCell_other _ _ _ _ (by simp), World.cell?_setCell_other _ _ _ _ (by simp), oth]; exact hm.listedC
  refine ⟨?_, ?_, fun B h1 h2 => ((((Below.refl _ _).setCell h2 _).setCell h1 _).setCell h1 _).setCell h1 _⟩
  · rw [World.cell?_setCell_other _ _ _ _ (fun e => hmr (by injection e)), World.cell?_setCell_other _ _ _ _ (fun e => hmr (by injection e)), World.cell?_setCell_other _ _ _ _ (fun e => hmr (by injection e))]; exact c1
  · rw [if_pos hy, if_pos hy]
    refine ⟨?_, ?_, ?_, ?_, ?_, ?_, ?_, ?_⟩
    · rw [World.cell?_setCell_other _ _ _ _ (by simp)]; exact World.cell?_setCell_same _ _ _ e215
    · exact World.cell?_setCell_same _ _ _ e216
    · rw [World.cell?_setCell_other _ _ _ _ (by simp), World.cell?_setCell_other _ _ _ _ (by simp)]; exact e217
    · rw [World.cell?_setCell_other _ _ _ _ (by simp), World.cell?_setCell_other _ _ _ _ (by simp), World.cell?_setCell_other _ _ _ _ (by simp), oth]; exact hm.limitC
    · rw [World.frozen?_setCell, World.frozen?_setCell, World.frozen?_setCell, World.frozen?_setCell]; exact hm.f0
    · rw [World.frozen?_setCell, World.frozen?_setCell, World.frozen?_setCell, World.frozen?_setCell]; exact hm.f1
    · rw [World.frozen?_setCell, World.frozen?_setCell, World.frozen?_setCell, World.frozen?_setCell]; exact hm.f2
    · rw [shape_setCell, shape_setCell, shape_setCell, shape_setCell]; exact hm.shape

set_option maxRecDepth 100000 in
set_option maxHeartbeats 400000 in
theorem qe_nested (mb rb tb pb : Nat) (x queued listed limit : Int) (hx : x = 0 ∨ x = 1) (w : World) (hf : w.cell? ⟨rb, 5, none⟩ = some (.int .u32 x)) (hz : w.frozen? ⟨rb, 5, none⟩ = false)
    (he : w.cell? ⟨rb, 4, none⟩ = some (.pointer (some ⟨rb, 9, none⟩))) (hp : w.cell? ⟨rb, 15, none⟩ = some (.pointer (some ⟨pb, 0, none⟩))) (hq : w.cell? ⟨rb, 16, none⟩ = some (.pointer (some ⟨pb, 0, none⟩)))
    (ca cb : Array Value) (t1 : TypeId) (hrb : w.heap[rb]? = some (.cells ca 237 (0, 0))) (hca : ca.size = 18) (hpb : w.heap[pb]? = some (.cells cb t1 (0, 0))) (hne : rb ≠ pb) (hmr : mb ≠ rb)
    (hm : Mgr w mb tb (some ⟨tb, 0, none⟩) listed queued limit) :
    Calls Yba.prog 23 #[.pointer (some ⟨mb, 0, none⟩), .pointer (some ⟨rb, 0, none⟩)] w fun e w' => e = .returned (.tuple #[]) ∧ After w w' mb rb tb listed queued limit := by
  obtain ⟨j, hj, hj9⟩ := Yba.infoSome (t := 101) (k := 9) (by kernel_rfl)
  have other : ∀ b, b ≠ rb → (w.setCell ⟨rb, 5, none⟩ (.int .u32 0)).heap[b]? = w.heap[b]? := fun b hb => heap_setCell_other _ ⟨rb, 5, none⟩ b _ hb
  have same := heap_setCell_same w rb 5 ca 237 (.int .u32 0) hrb
  have hpe := run_eql_ptr_other (P := Yba.prog) (w.setCell ⟨rb, 5, none⟩ (.int .u32 0)) (a := ⟨rb, 0, none⟩) (b := ⟨pb, 0, none⟩) Yba.underlying61 hj (by omega) (fun e => hne (by injection e)) same ((other pb (Ne.symm hne)).trans hpb)
  have c4 : (w.setCell ⟨rb, 5, none⟩ (.int .u32 0)).cell? ⟨rb, 4, none⟩ = some (.pointer (some ⟨rb, 9, none⟩)) := by rw [World.cell?_setCell_other _ _ _ _ (by simp)]; exact he
  have c15 : (w.setCell ⟨rb, 5, none⟩ (.int .u32 0)).cell? ⟨rb, 15, none⟩ = some (.pointer (some ⟨pb, 0, none⟩)) := by rw [World.cell?_setCell_other _ _ _ _ (by simp)]; exact hp
  have c16 : (w.setCell ⟨rb, 5, none⟩ (.int .u32 0)).cell? ⟨rb, 16, none⟩ = some (.pointer (some ⟨pb, 0, none⟩)) := by rw [World.cell?_setCell_other _ _ _ _ (by simp)]; exact hq
  have sh : (w.setCell ⟨rb, 5, none⟩ (.int .u32 0)).shape? rb = some (237, 18) := by simp [World.shape?, same, hca]
  have m0 : (w.setCell ⟨rb, 5, none⟩ (.int .u32 0)).cell? ⟨mb, 215, none⟩ = some (.pointer (some ⟨tb, 0, none⟩)) := (World.cell?_of_block (other mb hmr)).trans hm.table
  have m1 : (w.setCell ⟨rb, 5, none⟩ (.int .u32 0)).cell? ⟨mb, 216, none⟩ = some (.int .i64 listed) := (World.cell?_of_block (other mb hmr)).trans hm.listedC
  have m2 : (w.setCell ⟨rb, 5, none⟩ (.int .u32 0)).cell? ⟨mb, 217, none⟩ = some (.int .i64 queued) := (World.cell?_of_block (other mb hmr)).trans hm.queuedC
  have n0 : (w.setCell ⟨rb, 5, none⟩ (.int .u32 0)).frozen? ⟨mb, 215, none⟩ = false := (World.frozen?_of_block (other mb hmr)).trans hm.f0
  have n1 : (w.setCell ⟨rb, 5, none⟩ (.int .u32 0)).frozen? ⟨mb, 216, none⟩ = false := (World.frozen?_of_block (other mb hmr)).trans hm.f1
  have n2 : (w.setCell ⟨rb, 5, none⟩ (.int .u32 0)).frozen? ⟨mb, 217, none⟩ = false := (World.frozen?_of_block (other mb hmr)).trans hm.f2
  have HM := hidE hm
  have HF := hidE hf
  clear hj same other hrb hpb he hp hq hm
  generalize hW : w.setCell ⟨rb, 5, none⟩ (.int .u32 0) = W at *
  have HW := hidE hW
  clear hW
  by_cases hy : wrap64 (queued - 1) = 0
  · have ey : (wrap64 (queued - 1) == 0) = true := by simp [hy]
    have HY := hidE hy
    clear hy
    have k0 : (W.setCell ⟨mb, 217, none⟩ (.int .i64 (wrap64 (queued - 1)))).cell? ⟨mb, 215, none⟩ = some (.pointer (some ⟨tb, 0, none⟩)) := by rw [World.cell?_setCell_other _ _ _ _ (by simp)]; exact m0
    have k1 : (W.setCell ⟨mb, 217, none⟩ (.int .i64 (wrap64 (queued - 1)))).frozen? ⟨mb, 215, none⟩ = false := by rw [World.frozen?_setCell]; exact n0
    go_enter Yba.func23, Yba.ntmps23
    go_wp2_with (first | (go_at_call 22; refine (set_off rb x hx _ hf hz).mono ?_; rintro e w' ⟨rfl, hw'⟩; rw [HW.out] at hw'; subst hw') | (go_at_call 42; refine (top_tree rb _ _ _ c4 sh c15 c16).mono ?_; rintro e w' ⟨rfl, rfl⟩) | (go_at_call 20; refine (nt_store_nil _ _ _ _ k0 k1).mono ?_; rintro e w' ⟨rfl, rfl⟩))
    go_end0
    refine ⟨rfl, ?_⟩
    rw [← HW.out]
    exact after_yes HM.out hmr HF.out HY.out
  · have ey : (wrap64 (queued - 1) == 0) = false := by simp [hy]
    have HY := hidE hy
    clear hy
    go_enter Yba.func23, Yba.ntmps23
    go_wp2_with (first | (go_at_call 22; refine (set_off rb x hx _ hf hz).mono ?_; rintro e w' ⟨rfl, hw'⟩; rw [HW.out] at hw'; subst hw') | (go_at_call 42; refine (top_tree rb _ _ _ c4 sh c15 c16).mono ?_; rintro e w' ⟨rfl, rfl⟩))
    go_end0
    refine ⟨rfl, ?_⟩
    rw [← HW.out]
    exact after_no HM.out hmr HF.out HY.out
end Go.Proofs.Ybulkamzi
