import Derived.Test.YbulkamziAtomic
import Derived.Deep.CutBlock
import Derived.Deep.DeepCutAuto
import Derived.BigQuiet
import Derived.Deep.RegionWith
import Derived.Laws.Rows
import Derived.Laws.BitsAllLaws
import Derived.Laws.MakeOwn
import Derived.OwnWalk
import Derived.Below
namespace Go.Proofs.Ybulkamzi
open Go.RowKit
set_option linter.unusedVariables false
theorem hidB {p : Prop} (h : p) : Hid p := h

/-- What a place's two cells hold: the resource that lies there, and its spot. -/
def ptrV (rb : Nat → Nat) (o : Option Nat) : Option Addr := o.map fun k => ⟨rb k, 0, none⟩
def spotV (spot : Nat → Nat) : Option Nat → Nat | none => 0 | some k => spot k

def TabRow (c : Array Value) (n : Nat) (rb spot : Nat → Nat) (R : Nat → Option Nat) : Prop :=
  c.size = 2 * n ∧ ∀ p, p < n → c[p / 2 * 4 + p % 2]? = some (.int .u32 (spotV spot (R p) : Nat)) ∧ c[p / 2 * 4 + 2 + p % 2]? = some (.pointer (ptrV rb (R p)))

/-- A nameTable of n places: its header at block tb, its groups at block gb. -/
structure Tab (w : World) (tb gb n : Nat) (rb spot : Nat → Nat) (R : Nat → Option Nat) : Prop where
  hdr : w.cell? ⟨tb, 0, none⟩ = some (.slice (some ⟨gb, 0, none⟩) (n / 2) (n / 2))
  row : ∃ c, w.heap[gb]? = some (.cells c 225 (0, 0)) ∧ TabRow c n rb spot R
  shp : ∀ p k, p < n → R p = some k → w.shape? (rb k) = some (101, 9)

theorem Tab.resCell {w : World} {tb gb n : Nat} {rb spot : Nat → Nat} {R : Nat → Option Nat} (h : Tab w tb gb n rb spot R) {p : Nat} (hp : p < n) :
    w.cell? ⟨gb, p / 2 * 4 + 2 + p % 2, none⟩ = some (.pointer (ptrV rb (R p))) ∧ w.frozen? ⟨gb, p / 2 * 4 + 2 + p % 2, none⟩ = false := by
  obtain ⟨c, h1, h2, h3⟩ := h.row
  exact ⟨by rw [cell_of_row w gb _ c _ _ h1]; exact (h3 p hp).2, frozen_of_row _ _ _ _ _ h1⟩
theorem Tab.spotCell {w : World} {tb gb n : Nat} {rb spot : Nat → Nat} {R : Nat → Option Nat} (h : Tab w tb gb n rb spot R) {p : Nat} (hp : p < n) :
    w.cell? ⟨gb, p / 2 * 4 + p % 2, none⟩ = some (.int .u32 (spotV spot (R p) : Nat)) ∧ w.frozen? ⟨gb, p / 2 * 4 + p % 2, none⟩ = false := by
  obtain ⟨c, h1, h2, h3⟩ := h.row
  exact ⟨by rw [cell_of_row w gb _ c _ _ h1]; exact (h3 p hp).1, frozen_of_row _ _ _ _ _ h1⟩

theorem Yba.size101 : (Yba.prog.info? 101).map (·.size) = some 9 := by kernel_rfl
theorem Yba.lies101 : liesAt Yba.prog Yba.prog.depth 101 (9 / Yba.prog.cellsOf 101) 0 101 1 = true := by kernel_rfl

/-- (*Pointer[resource]).Load. -/
theorem res_load (b o : Nat) (x : Option Nat) (w : World) (hc : w.cell? ⟨b, o, none⟩ = some (.pointer (x.map fun k => ⟨k, 0, none⟩))) (ht : ∀ k, x = some k → w.shape? k = some (101, 9)) :
    Calls Yba.prog 39 #[.pointer (some ⟨b, o, none⟩)] w fun e w' => e = .returned (.pointer (x.map fun k => ⟨k, 0, none⟩)) ∧ w' = w := by
  cases x with
  | none =>
    have hl := run_call_loadP (P := Yba.prog) Yba.func46 (by kernel_rfl) (by kernel_rfl) (by kernel_rfl) (by kernel_rfl) hc
    have hv : ∀ w : World, (convert 63 61 (.pointer none)).run Yba.prog w = .ok (.pointer none) w := fun w => by
      simp [convert, run_underlying Yba.underlying61, run_underlying Yba.underlying63, Conv.unsafePointer]
    clear ht
    go_enter Yba.func39, Yba.ntmps39
    go_wp2
    go_ret
    exact ⟨rfl, rfl⟩
  | some k =>
    have hl := run_call_loadP (P := Yba.prog) Yba.func46 (by kernel_rfl) (by kernel_rfl) (by kernel_rfl) (by kernel_rfl) hc
    obtain ⟨j, hj, _⟩ := Yba.infoSome Yba.size101
    have hv := Lib.run_from_unsafe (P := Yba.prog) w (⟨k, 0, none⟩ : Addr) Yba.underlying63 Yba.underlying61 hj (ht k rfl) Yba.lies101
    clear ht hj
    simp only [Option.map_some] at hl hc ⊢
    go_enter Yba.func39, Yba.ntmps39
    go_wp2
    go_ret
    exact ⟨rfl, rfl⟩
/-- (*Pointer[resource]).Store. -/
theorem res_store (b o : Nat) (x : Option Nat) (u : Value) (w : World) (hc : w.cell? ⟨b, o, none⟩ = some u) (hz : w.frozen? ⟨b, o, none⟩ = false) (ht : ∀ k, x = some k → ∃ v, w.cell? ⟨k, 0, none⟩ = some v) :
    Calls Yba.prog 52 #[.pointer (some ⟨b, o, none⟩), .pointer (x.map fun k => ⟨k, 0, none⟩)] w fun e w' => e = .returned (.tuple #[]) ∧ w' = w.setCell ⟨b, o, none⟩ (.pointer (x.map fun k => ⟨k, 0, none⟩)) := by
  cases x with
  | none =>
    have hl := run_call_storeP (P := Yba.prog) Yba.func41 (by kernel_rfl) (by kernel_rfl) (by kernel_rfl) (by kernel_rfl) (y := none) hc hz
    have hv : ∀ w : World, (convert 61 63 (.pointer none)).run Yba.prog w = .ok (.pointer none) w := fun w => by
      simp [convert, run_underlying Yba.underlying61, run_underlying Yba.underlying63, Conv.unsafePointer]
    clear ht
    simp only [Option.map_none]
    go_enter Yba.func52, Yba.ntmps52
    go_wp2
    go_end0
    exact ⟨rfl, rfl⟩
  | some k =>
    obtain ⟨v, hv0⟩ := ht k rfl
    have hl := run_call_storeP (P := Yba.prog) Yba.func41 (by kernel_rfl) (by kernel_rfl) (by kernel_rfl) (by kernel_rfl) (y := some ⟨k, 0, none⟩) hc hz
    have hv := run_convert_to_unsafe (P := Yba.prog) Yba.underlying61 Yba.underlying63 (by kernel_rfl) hv0
    clear ht
    simp only [Option.map_some]
    go_enter Yba.func52, Yba.ntmps52
    go_wp2
    go_end0
    exact ⟨rfl, rfl⟩
/-- (*Uint32).Store. -/
theorem u32_store (b o : Nat) (u : Value) (y : Int) (w : World) (hc : w.cell? ⟨b, o, none⟩ = some u) (hz : w.frozen? ⟨b, o, none⟩ = false) :
    Calls Yba.prog 10 #[.pointer (some ⟨b, o, none⟩), .int .u32 y] w fun e w' => e = .returned (.tuple #[]) ∧ w' = w.setCell ⟨b, o, none⟩ (.int .u32 y) := by
  have hl : (callFunc 26 #[.pointer (some ⟨b, o, none⟩), .int .u32 y]).run Yba.prog w = .ok (.value (.tuple #[])) (w.setCell ⟨b, o, none⟩ (.int .u32 y)) := by
    rw [run_callFunc_extern Yba.func26 (by kernel_rfl) (by kernel_rfl) (by kernel_rfl) (show Extern.find Yba.f26 = some Extern.Atomic.storeT by kernel_rfl)]
    change (Sem.run Yba.prog (do
      store (← asAddr (.pointer (some ⟨b, o, none⟩))) (.int .u32 y) .atomic
      pure Extern.Atomic.none_) w).andThen _ = _
    simp [asAddr, hc, hz, run_store Yba.prog w ⟨b, o, none⟩ (.int .u32 y) .atomic rfl, Result.andThen, Extern.Atomic.none_]
  go_enter Yba.func10, Yba.ntmps10
  go_wp2
  go_end0
  exact ⟨rfl, rfl⟩

/-- (*nameTable).size, mask. -/
theorem size_walk (tb gb g : Nat) (hg : g ≤ 32) (w : World) (hh : w.cell? ⟨tb, 0, none⟩ = some (.slice (some ⟨gb, 0, none⟩) g g)) :
    Calls Yba.prog 31 #[.pointer (some ⟨tb, 0, none⟩)] w fun e w' => e = .returned (.int .i64 (2 * g)) ∧ w' = w := by
  go_enter Yba.func31, Yba.ntmps31
  go_wp2
  go_ret
  exact ⟨rfl, rfl⟩
theorem mask_walk (tb gb g : Nat) (hg : g ≤ 32) (hg0 : 0 < g) (w : World) (hh : w.cell? ⟨tb, 0, none⟩ = some (.slice (some ⟨gb, 0, none⟩) g g)) :
    Calls Yba.prog 29 #[.pointer (some ⟨tb, 0, none⟩)] w fun e w' => e = .returned (.int .u64 (2 * g - 1)) ∧ w' = w := by
  go_enter Yba.func29, Yba.ntmps29
  go_wp2_with (go_at_call 31; refine (size_walk tb gb g hg _ hh).mono ?_; rintro e w' ⟨rfl, rfl⟩)
  go_ret
  exact ⟨rfl, rfl⟩
/-- (*nameTable).at. -/
theorem at_walk (tb gb n p : Nat) (rb spot : Nat → Nat) (R : Nat → Option Nat) (hn : n ≤ 64) (hp : p < n) (he : n % 2 = 0) (w : World) (h : Tab w tb gb n rb spot R) :
    Calls Yba.prog 18 #[.pointer (some ⟨tb, 0, none⟩), .int .u64 p] w fun e w' => e = .returned (.pointer (ptrV rb (R p))) ∧ w' = w := by
  have hh := h.hdr
  obtain ⟨g, hg⟩ : ∃ g, g = n / 2 := ⟨_, rfl⟩
  obtain ⟨a, ha⟩ : ∃ a, a = p / 2 := ⟨_, rfl⟩
  obtain ⟨r, hr⟩ : ∃ r, r = p % 2 := ⟨_, rfl⟩
  have e1 : (p : Int) / 2 = (a : Int) := by omega
  have e2 : (p : Int) % 2 = (r : Int) := by omega
  have e1' : (p : Int).tdiv 2 = (a : Int) := by rw [Int.tdiv_eq_ediv_of_nonneg (by omega)]; omega
  have e2' : (p : Int).tmod 2 = (r : Int) := by rw [Int.tmod_eq_emod_of_nonneg (by omega)]; omega
  have hal : a < g := by omega
  have hr2 : r < 2 := by omega
  have hc := (h.resCell hp).1
  rw [← ha, ← hr] at hc
  rw [← hg] at hh
  have L : Hid (Calls Yba.prog 39 #[.pointer (some ⟨gb, a * 4 + 2 + r, none⟩)] w fun e w' => e = .returned (.pointer (ptrV rb (R p))) ∧ w' = w) := by
    have := res_load gb (a * 4 + 2 + r) ((R p).map rb) w (by rw [hc]; unfold ptrV; cases R p <;> rfl) (fun k hk => by
      cases hR : R p with
      | none => rw [hR] at hk; cases hk
      | some j => rw [hR] at hk; cases hk; exact h.shp p j hp hR)
    have e : ((R p).map rb).map (fun k => (⟨k, 0, none⟩ : Addr)) = ptrV rb (R p) := by unfold ptrV; cases R p <;> rfl
    rw [e] at this
    exact this
  have hg32 : g ≤ 32 := by omega
  clear hc h hg ha hr he
  go_enter Yba.func18, Yba.ntmps18
  go_wp2_with (go_at_call 39; refine L.out.mono ?_; rintro e w' ⟨rfl, rfl⟩)
  go_ret
  exact ⟨rfl, rfl⟩
end Go.Proofs.Ybulkamzi
