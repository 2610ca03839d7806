import Derived.Test.YbulkamziRemB
import Derived.Laws.LoneSync
namespace Go.Proofs.Ybulkamzi
open Go.RowKit
set_option linter.unusedVariables false

/-- What the law's walk knows of a resource: its mutex's state, its lone holder, its flags, its top flags; it has no extension. -/
def ResRow (c : Array Value) (lk : Int) (ln : Option Addr) (fl tf : Int) : Prop :=
  c.size = 9 ∧ c[0]? = some (.int .i32 lk) ∧ c[3]? = some (.pointer ln) ∧ c[4]? = some (.pointer none) ∧ c[5]? = some (.int .u32 fl) ∧ c[8]? = some (.int .u8 tf)
def Res (w : World) (b : Nat) (lk : Int) (ln : Option Addr) (fl tf : Int) : Prop := ∃ c, w.heap[b]? = some (.cells c 101 (0, 0)) ∧ ResRow c lk ln fl tf

theorem Res.cells {w : World} {b : Nat} {lk : Int} {ln : Option Addr} {fl tf : Int} (h : Res w b lk ln fl tf) :
    w.cell? ⟨b, 0, none⟩ = some (.int .i32 lk) ∧ w.cell? ⟨b, 3, none⟩ = some (.pointer ln) ∧ w.cell? ⟨b, 4, none⟩ = some (.pointer none) ∧ w.cell? ⟨b, 5, none⟩ = some (.int .u32 fl) ∧ w.cell? ⟨b, 8, none⟩ = some (.int .u8 tf) := by
  obtain ⟨c, h1, h2, h3, h4, h5, h6, h7⟩ := h
  simp only [cell_of_row w b _ c _ _ h1]
  exact ⟨h3, h4, h5, h6, h7⟩
theorem Res.frozen {w : World} {b : Nat} {lk : Int} {ln : Option Addr} {fl tf : Int} (h : Res w b lk ln fl tf) (o : Nat) : w.frozen? ⟨b, o, none⟩ = false := by
  obtain ⟨c, h1, _⟩ := h; exact frozen_of_row _ _ _ _ _ h1
theorem Res.shape {w : World} {b : Nat} {lk : Int} {ln : Option Addr} {fl tf : Int} (h : Res w b lk ln fl tf) : w.shape? b = some (101, 9) := by
  obtain ⟨c, h1, h2, _⟩ := h; unfold World.shape?; rw [h1]; simp [h2]
theorem Res.of_heap {w w' : World} {b : Nat} {lk : Int} {ln : Option Addr} {fl tf : Int} (h : Res w b lk ln fl tf) (e : w'.heap[b]? = w.heap[b]?) : Res w' b lk ln fl tf := by
  obtain ⟨c, h1, h2⟩ := h; exact ⟨c, e.trans h1, h2⟩
theorem Res.lock {w : World} {b : Nat} {lk : Int} {ln : Option Addr} {fl tf : Int} (h : Res w b lk ln fl tf) (y : Int) : Res (w.setCell ⟨b, 0, none⟩ (.int .i32 y)) b y ln fl tf := by
  obtain ⟨c, h1, h2, h3, h4, h5, h6, h7⟩ := h
  refine ⟨_, heap_setCell_same _ _ _ _ _ _ h1, by simp [h2], ?_, ?_, ?_, ?_, ?_⟩ <;> simp only [Array.getElem?_setIfInBounds]
  · simp [h2]
  · simpa using h4
  · simpa using h5
  · simpa using h6
  · simpa using h7
theorem Res.top {w : World} {b : Nat} {lk : Int} {ln : Option Addr} {fl tf : Int} (h : Res w b lk ln fl tf) (y : Int) : Res (w.setCell ⟨b, 8, none⟩ (.int .u8 y)) b lk ln fl y := by
  obtain ⟨c, h1, h2, h3, h4, h5, h6, h7⟩ := h
  refine ⟨_, heap_setCell_same _ _ _ _ _ _ h1, by simp [h2], ?_, ?_, ?_, ?_, ?_⟩ <;> simp only [Array.getElem?_setIfInBounds]
  · simpa using h3
  · simpa using h4
  · simpa using h5
  · simpa using h6
  · simp [h2]
theorem Res.flag {w : World} {b : Nat} {lk : Int} {ln : Option Addr} {fl tf : Int} (h : Res w b lk ln fl tf) (y : Int) : Res (w.setCell ⟨b, 5, none⟩ (.int .u32 y)) b lk ln y tf := by
  obtain ⟨c, h1, h2, h3, h4, h5, h6, h7⟩ := h
  refine ⟨_, heap_setCell_same _ _ _ _ _ _ h1, by simp [h2], ?_, ?_, ?_, ?_, ?_⟩ <;> simp only [Array.getElem?_setIfInBounds]
  · simpa using h3
  · simpa using h4
  · simpa using h5
  · simp [h2]
  · simpa using h7
theorem Res.lone {w : World} {b : Nat} {lk : Int} {ln : Option Addr} {fl tf : Int} (h : Res w b lk ln fl tf) (y : Option Addr) : Res (w.setCell ⟨b, 3, none⟩ (.pointer y)) b lk y fl tf := by
  obtain ⟨c, h1, h2, h3, h4, h5, h6, h7⟩ := h
  refine ⟨_, heap_setCell_same _ _ _ _ _ _ h1, by simp [h2], ?_, ?_, ?_, ?_, ?_⟩ <;> simp only [Array.getElem?_setIfInBounds]
  · simpa using h3
  · simp [h2]
  · simpa using h5
  · simpa using h6
  · simpa using h7

set_option maxRecDepth 100000 in
/-- (*sync.Mutex).Lock of a free mutex. -/
theorem ilock_walk (b : Nat) (ln : Option Addr) (fl tf : Int) (w : World) (h : Res w b 0 ln fl tf) :
    Calls Yba.prog 27 #[.pointer (some ⟨b, 0, none⟩)] w fun e w' => e = .returned (.tuple #[]) ∧ w' = w.setCell ⟨b, 0, none⟩ (.int .i32 1) := by
  have r1 := fun w => run_call_mark0 (P := Yba.prog) Yba.func47 (by kernel_rfl) (by kernel_rfl) (by kernel_rfl) .disable (by kernel_rfl) w
  have r2 := fun w => run_call_mark0 (P := Yba.prog) Yba.func49 (by kernel_rfl) (by kernel_rfl) (by kernel_rfl) .enable (by kernel_rfl) w
  have r3 := fun a w => run_call_marked (P := Yba.prog) Yba.func50 (by kernel_rfl) (by kernel_rfl) (by kernel_rfl) .acquire (by kernel_rfl) a w
  have r4 := run_call_cas_hit (P := Yba.prog) Yba.func48 (by kernel_rfl) (by kernel_rfl) (by kernel_rfl) .i32 (by kernel_rfl) (y := 1) h.cells.1 (h.frozen 0)
  have hv := run_convert_to_unsafe (P := Yba.prog) Yba.underlying241 Yba.underlying63 (by kernel_rfl) (h.lock 1).cells.1
  clear h
  go_enter Yba.func27, Yba.ntmps27
  go_wp2
  first | go_end0 | refine bodyPost_ret (results_none rfl _ _ _) rfl ?_
  exact ⟨rfl, rfl⟩
theorem lock_walk (b : Nat) (ln : Option Addr) (fl tf : Int) (w : World) (h : Res w b 0 ln fl tf) :
    Calls Yba.prog 11 #[.pointer (some ⟨b, 0, none⟩)] w fun e w' => e = .returned (.tuple #[]) ∧ w' = w.setCell ⟨b, 0, none⟩ (.int .i32 1) := by
  have L := hidB (ilock_walk b ln fl tf w h)
  clear h
  go_enter Yba.func11, Yba.ntmps11
  go_wp2_with (go_at_call 27; refine L.out.mono ?_; rintro e w' ⟨rfl, rfl⟩)
  go_end0
  exact ⟨rfl, rfl⟩
set_option maxRecDepth 100000 in
/-- (*sync.Mutex).TryLock: of a free mutex, of a held one. -/
theorem itry_free (b : Nat) (ln : Option Addr) (fl tf : Int) (w : World) (h : Res w b 0 ln fl tf) :
    Calls Yba.prog 53 #[.pointer (some ⟨b, 0, none⟩)] w fun e w' => e = .returned (.bool true) ∧ w' = w.setCell ⟨b, 0, none⟩ (.int .i32 1) := by
  have r1 := fun w => run_call_mark0 (P := Yba.prog) Yba.func47 (by kernel_rfl) (by kernel_rfl) (by kernel_rfl) .disable (by kernel_rfl) w
  have r2 := fun w => run_call_mark0 (P := Yba.prog) Yba.func49 (by kernel_rfl) (by kernel_rfl) (by kernel_rfl) .enable (by kernel_rfl) w
  have r3 := fun a w => run_call_marked (P := Yba.prog) Yba.func50 (by kernel_rfl) (by kernel_rfl) (by kernel_rfl) .acquire (by kernel_rfl) a w
  have r4 := run_call_cas_hit (P := Yba.prog) Yba.func48 (by kernel_rfl) (by kernel_rfl) (by kernel_rfl) .i32 (by kernel_rfl) (y := 1) h.cells.1 (h.frozen 0)
  have hv := run_convert_to_unsafe (P := Yba.prog) Yba.underlying241 Yba.underlying63 (by kernel_rfl) (h.lock 1).cells.1
  have c0 := h.cells.1
  have z1 : bits .and .i32 0 5 = 0 := by decide +kernel
  have z2 : bits .or .i32 0 1 = 1 := by decide +kernel
  clear h
  go_enter Yba.func53, Yba.ntmps53
  go_wp2
  go_ret
  exact ⟨rfl, rfl⟩
set_option maxRecDepth 100000 in
theorem itry_held (b : Nat) (ln : Option Addr) (fl tf : Int) (w : World) (h : Res w b 1 ln fl tf) :
    Calls Yba.prog 53 #[.pointer (some ⟨b, 0, none⟩)] w fun e w' => e = .returned (.bool false) ∧ w' = w := by
  have r1 := fun w => run_call_mark0 (P := Yba.prog) Yba.func47 (by kernel_rfl) (by kernel_rfl) (by kernel_rfl) .disable (by kernel_rfl) w
  have r2 := fun w => run_call_mark0 (P := Yba.prog) Yba.func49 (by kernel_rfl) (by kernel_rfl) (by kernel_rfl) .enable (by kernel_rfl) w
  have c0 := h.cells.1
  have z1 : bits .and .i32 1 5 = 1 := by decide +kernel
  clear h
  go_enter Yba.func53, Yba.ntmps53
  go_wp2
  go_ret
  exact ⟨rfl, rfl⟩
theorem try_free (b : Nat) (ln : Option Addr) (fl tf : Int) (w : World) (h : Res w b 0 ln fl tf) :
    Calls Yba.prog 32 #[.pointer (some ⟨b, 0, none⟩)] w fun e w' => e = .returned (.bool true) ∧ w' = w.setCell ⟨b, 0, none⟩ (.int .i32 1) := by
  have L := hidB (itry_free b ln fl tf w h)
  clear h
  go_enter Yba.func32, Yba.ntmps32
  go_wp2_with (go_at_call 53; refine L.out.mono ?_; rintro e w' ⟨rfl, rfl⟩)
  go_ret
  exact ⟨rfl, rfl⟩
theorem try_held (b : Nat) (ln : Option Addr) (fl tf : Int) (w : World) (h : Res w b 1 ln fl tf) :
    Calls Yba.prog 32 #[.pointer (some ⟨b, 0, none⟩)] w fun e w' => e = .returned (.bool false) ∧ w' = w := by
  have L := hidB (itry_held b ln fl tf w h)
  clear h
  go_enter Yba.func32, Yba.ntmps32
  go_wp2_with (go_at_call 53; refine L.out.mono ?_; rintro e w' ⟨rfl, rfl⟩)
  go_ret
  exact ⟨rfl, rfl⟩
set_option maxRecDepth 100000 in
/-- (*sync.Mutex).Unlock. -/
theorem iunlock_walk (b : Nat) (ln : Option Addr) (fl tf : Int) (w : World) (h : Res w b 1 ln fl tf) :
    Calls Yba.prog 56 #[.pointer (some ⟨b, 0, none⟩)] w fun e w' => e = .returned (.tuple #[]) ∧ w' = w.setCell ⟨b, 0, none⟩ (.int .i32 0) := by
  have r1 := fun w => run_call_mark0 (P := Yba.prog) Yba.func47 (by kernel_rfl) (by kernel_rfl) (by kernel_rfl) .disable (by kernel_rfl) w
  have r2 := fun w => run_call_mark0 (P := Yba.prog) Yba.func49 (by kernel_rfl) (by kernel_rfl) (by kernel_rfl) .enable (by kernel_rfl) w
  have r3 := fun a w => run_call_marked (P := Yba.prog) Yba.func72 (by kernel_rfl) (by kernel_rfl) (by kernel_rfl) .releaseMerge (by kernel_rfl) a w
  have r4 := run_call_add (P := Yba.prog) Yba.func70 (by kernel_rfl) (by kernel_rfl) (by kernel_rfl) .i32 (by kernel_rfl) (y := -1) (s := 0) h.cells.1 (h.frozen 0) (by rfl)
  have hv := run_convert_to_unsafe (P := Yba.prog) Yba.underlying241 Yba.underlying63 (by kernel_rfl) h.cells.1
  have c0 := h.cells.1
  clear h
  go_enter Yba.func56, Yba.ntmps56
  go_wp2
  first | go_end0 | refine bodyPost_ret (results_none rfl _ _ _) rfl ?_
  exact ⟨rfl, rfl⟩
theorem unlock_walk (b : Nat) (ln : Option Addr) (fl tf : Int) (w : World) (h : Res w b 1 ln fl tf) :
    Calls Yba.prog 34 #[.pointer (some ⟨b, 0, none⟩)] w fun e w' => e = .returned (.tuple #[]) ∧ w' = w.setCell ⟨b, 0, none⟩ (.int .i32 0) := by
  have L := hidB (iunlock_walk b ln fl tf w h)
  clear h
  go_enter Yba.func34, Yba.ntmps34
  go_wp2_with (go_at_call 56; refine L.out.mono ?_; rintro e w' ⟨rfl, rfl⟩)
  go_end0
  exact ⟨rfl, rfl⟩

/-- (*resource).crowded, childCount, holderCount, has, unused: no extension. -/
theorem crowded_walk (b : Nat) (w : World) (hc : w.cell? ⟨b, 4, none⟩ = some (.pointer none)) :
    Calls Yba.prog 71 #[.pointer (some ⟨b, 0, none⟩)] w fun e w' => e = .returned (.pointer none) ∧ w' = w := by
  have L := hidB (ext_load_nil b 4 w hc)
  go_enter Yba.func71, Yba.ntmps71
  go_wp2_with (go_at_call 62; refine L.out.mono ?_; rintro e w' ⟨rfl, rfl⟩)
  go_ret
  exact ⟨rfl, rfl⟩
theorem childCount_walk (b : Nat) (w : World) (hc : w.cell? ⟨b, 4, none⟩ = some (.pointer none)) :
    Calls Yba.prog 55 #[.pointer (some ⟨b, 0, none⟩)] w fun e w' => e = .returned (.int .i64 0) ∧ w' = w := by
  have L := hidB (ext_load_nil b 4 w hc)
  go_enter Yba.func55, Yba.ntmps55
  go_wp2_with (go_at_call 62; refine L.out.mono ?_; rintro e w' ⟨rfl, rfl⟩)
  go_ret
  exact ⟨rfl, rfl⟩
theorem holderCount_none (b : Nat) (w : World) (hl : w.cell? ⟨b, 3, none⟩ = some (.pointer none)) (hc : w.cell? ⟨b, 4, none⟩ = some (.pointer none)) :
    Calls Yba.prog 54 #[.pointer (some ⟨b, 0, none⟩)] w fun e w' => e = .returned (.int .i64 0) ∧ w' = w := by
  have L := hidB (crowded_walk b w hc)
  go_enter Yba.func54, Yba.ntmps54
  go_wp2_with (go_at_call 71; refine L.out.mono ?_; rintro e w' ⟨rfl, rfl⟩)
  go_ret
  exact ⟨rfl, rfl⟩
theorem holderCount_lone (b : Nat) (x : Addr) (w : World) (hl : w.cell? ⟨b, 3, none⟩ = some (.pointer (some x))) :
    Calls Yba.prog 54 #[.pointer (some ⟨b, 0, none⟩)] w fun e w' => e = .returned (.int .i64 1) ∧ w' = w := by
  go_enter Yba.func54, Yba.ntmps54
  go_wp2
  go_ret
  exact ⟨rfl, rfl⟩
theorem has_walk (b : Nat) (x r : Int) (w : World) (hc : w.cell? ⟨b, 5, none⟩ = some (.int .u32 x)) (hr : bits .and .u32 x 1 = r) :
    Calls Yba.prog 24 #[.pointer (some ⟨b, 0, none⟩), .int .u32 1] w fun e w' => e = .returned (.bool (r != 0)) ∧ w' = w := by
  go_enter Yba.func24, Yba.ntmps24
  go_wp2_with (go_at_call 40; refine (u32_load _ _ _ _ hc).mono ?_; rintro e w' ⟨rfl, rfl⟩)
  go_ret
  exact ⟨rfl, rfl⟩
theorem unused_yes (b : Nat) (lk tf : Int) (w : World) (h : Res w b lk none 0 tf) :
    Calls Yba.prog 33 #[.pointer (some ⟨b, 0, none⟩)] w fun e w' => e = .returned (.bool true) ∧ w' = w := by
  obtain ⟨_, h1, h2, h3, _⟩ := h.cells
  have A := hidB (holderCount_none b w h1 h2)
  have B := hidB (has_walk b 0 0 w h3 (by decide +kernel))
  have C := hidB (childCount_walk b w h2)
  clear h h1 h2 h3
  go_enter Yba.func33, Yba.ntmps33
  go_wp2_with (first | (go_at_call 54; refine A.out.mono ?_; rintro e w' ⟨rfl, rfl⟩) | (go_at_call 24; refine B.out.mono ?_; rintro e w' ⟨rfl, rfl⟩) | (go_at_call 55; refine C.out.mono ?_; rintro e w' ⟨rfl, rfl⟩))
  go_ret
  exact ⟨rfl, rfl⟩
theorem unused_lone (b : Nat) (lk fl tf : Int) (x : Addr) (w : World) (h : Res w b lk (some x) fl tf) :
    Calls Yba.prog 33 #[.pointer (some ⟨b, 0, none⟩)] w fun e w' => e = .returned (.bool false) ∧ w' = w := by
  obtain ⟨_, h1, h2, h3, _⟩ := h.cells
  have A := hidB (holderCount_lone b x w h1)
  clear h h1 h2 h3
  go_enter Yba.func33, Yba.ntmps33
  go_wp2_with (go_at_call 54; refine A.out.mono ?_; rintro e w' ⟨rfl, rfl⟩)
  go_ret
  exact ⟨rfl, rfl⟩
theorem unused_queued (b : Nat) (lk tf : Int) (w : World) (h : Res w b lk none 1 tf) :
    Calls Yba.prog 33 #[.pointer (some ⟨b, 0, none⟩)] w fun e w' => e = .returned (.bool false) ∧ w' = w := by
  obtain ⟨_, h1, h2, h3, _⟩ := h.cells
  have A := hidB (holderCount_none b w h1 h2)
  have B := hidB (has_walk b 1 1 w h3 (by decide +kernel))
  clear h h1 h2 h3
  go_enter Yba.func33, Yba.ntmps33
  go_wp2_with (first | (go_at_call 54; refine A.out.mono ?_; rintro e w' ⟨rfl, rfl⟩) | (go_at_call 24; refine B.out.mono ?_; rintro e w' ⟨rfl, rfl⟩))
  go_ret
  exact ⟨rfl, rfl⟩
end Go.Proofs.Ybulkamzi
