import Derived.Test.YbulkamziProg
import Derived.WalkKit
import Derived.WalkSpells
import Derived.WalkLawsBesides
import Derived.Lib.Builder
import Derived.LaidEqlPtr
namespace Go.Proofs.Ybulkamzi
open Go.RowKit

section
variable {P : Program} {f : Nat} {fn : Func}
theorem run_call_loadP (hf : P.funcs[f]? = some fn) (hname : (fn.name == "runtime.NumGoroutine") = false) (hb : fn.body.isNone = true) (hn : Extern.findNext fn = none)
    (he : Extern.find fn = some (Extern.Atomic.loadT .ptr)) {a : Addr} {x : Option Addr} {w : World} (hc : w.cell? a = some (.pointer x)) :
    (callFunc f #[.pointer (some a)]).run P w = .ok (.value (.pointer x)) w := by
  rw [run_callFunc_extern hf hname hb hn he]
  change (Sem.run P (do Extern.Atomic.read .ptr (← asAddr (.pointer (some a)))) w).andThen _ = _
  simp [Extern.Atomic.read, asAddr, hc, Result.andThen]
theorem run_call_storeP (hf : P.funcs[f]? = some fn) (hname : (fn.name == "runtime.NumGoroutine") = false) (hb : fn.body.isNone = true) (hn : Extern.findNext fn = none)
    (he : Extern.find fn = some Extern.Atomic.storeT) {a : Addr} {y : Option Addr} {u : Value} {w : World} (hc : w.cell? a = some u) (hz : w.frozen? a = false) :
    (callFunc f #[.pointer (some a), .pointer y]).run P w = .ok (.value (.tuple #[])) (w.setCell a (.pointer y)) := by
  rw [run_callFunc_extern hf hname hb hn he]
  change (Sem.run P (do
    store (← asAddr (.pointer (some a))) (.pointer y) .atomic
    pure Extern.Atomic.none_) w).andThen _ = _
  simp [asAddr, hc, hz, run_store P w a (.pointer y) .atomic rfl, Result.andThen, Extern.Atomic.none_]
theorem run_call_bits (hf : P.funcs[f]? = some fn) (hname : (fn.name == "runtime.NumGoroutine") = false) (hb : fn.body.isNone = true) (hn : Extern.findNext fn = none) (k : IntKind) (op : BinOp)
    (he : Extern.find fn = some (Extern.Atomic.update (Op.intBits op) k false)) {a : Addr} {x y s : Int} {w : World} (hc : w.cell? a = some (.int k x)) (hz : w.frozen? a = false)
    (hs : (Op.intBits op k x y).run P w = .ok (.int k s) w) :
    (callFunc f #[.pointer (some a), .int k y]).run P w = .ok (.value (.int k x)) (w.setCell a (.int k s)) := by
  rw [run_callFunc_extern hf hname hb hn he]
  change (Sem.run P (do
    let a' ← asAddr (.pointer (some a))
    let old ← Extern.Atomic.read (.int k) a'
    let new ← Op.intBits op k (← asInt old) (← asInt (.int k y))
    store a' new .atomic
    pure (if false = true then new else old)) w).andThen _ = _
  simp [Extern.Atomic.read, asAddr, asInt, asIntOf, hc, hz, hs, run_store P w a (.int k s) .atomic rfl, Result.andThen]
end

/-- (*Uint32).Load. -/
theorem u32_load (b o : Nat) (x : Int) (w : World) (hc : w.cell? ⟨b, o, none⟩ = some (.int .u32 x)) :
    Calls Yba.prog 40 #[.pointer (some ⟨b, o, none⟩)] w fun e w' => e = .returned (.int .u32 x) ∧ w' = w := by
  have hl := run_call_load (P := Yba.prog) Yba.func61 (by kernel_rfl) (by kernel_rfl) (by kernel_rfl) .u32 (by kernel_rfl) hc
  go_enter Yba.func40, Yba.ntmps40
  go_wp2
  go_ret
  exact ⟨rfl, rfl⟩
/-- (*Uint32).Or, And. -/
theorem u32_or (b o : Nat) (x y s : Int) (w : World) (hc : w.cell? ⟨b, o, none⟩ = some (.int .u32 x)) (hz : w.frozen? ⟨b, o, none⟩ = false) (hs : (Op.intBits .or .u32 x y).run Yba.prog w = .ok (.int .u32 s) w) :
    Calls Yba.prog 44 #[.pointer (some ⟨b, o, none⟩), .int .u32 y] w fun e w' => e = .returned (.int .u32 x) ∧ w' = w.setCell ⟨b, o, none⟩ (.int .u32 s) := by
  have hl := run_call_bits (P := Yba.prog) Yba.func63 (by kernel_rfl) (by kernel_rfl) (by kernel_rfl) .u32 .or (by kernel_rfl) hc hz hs
  clear hs
  go_enter Yba.func44, Yba.ntmps44
  go_wp2
  go_ret
  exact ⟨rfl, rfl⟩
theorem u32_and (b o : Nat) (x y s : Int) (w : World) (hc : w.cell? ⟨b, o, none⟩ = some (.int .u32 x)) (hz : w.frozen? ⟨b, o, none⟩ = false) (hs : (Op.intBits .and .u32 x y).run Yba.prog w = .ok (.int .u32 s) w) :
    Calls Yba.prog 45 #[.pointer (some ⟨b, o, none⟩), .int .u32 y] w fun e w' => e = .returned (.int .u32 x) ∧ w' = w.setCell ⟨b, o, none⟩ (.int .u32 s) := by
  have hl := run_call_bits (P := Yba.prog) Yba.func64 (by kernel_rfl) (by kernel_rfl) (by kernel_rfl) .u32 .and (by kernel_rfl) hc hz hs
  clear hs
  go_enter Yba.func45, Yba.ntmps45
  go_wp2
  go_ret
  exact ⟨rfl, rfl⟩

theorem Yba.infoSome {t : TypeId} {k : Nat} (h : (Yba.prog.info? t).map (·.size) = some k) : ∃ j, Yba.prog.info? t = some j ∧ j.size = k := by
  cases e : Yba.prog.info? t with
  | none => rw [e] at h; simp at h
  | some j => rw [e] at h; exact ⟨j, rfl, by simpa using h⟩
theorem Yba.size196 : (Yba.prog.info? 196).map (·.size) = some 1 := by kernel_rfl
theorem Yba.size235 : (Yba.prog.info? 235).map (·.size) = some 9 := by kernel_rfl
theorem Yba.lies196 : liesAt Yba.prog Yba.prog.depth 196 (1 / Yba.prog.cellsOf 196) 0 196 1 = true := by kernel_rfl
theorem Yba.lies235 : liesAt Yba.prog Yba.prog.depth 237 (18 / Yba.prog.cellsOf 237) 9 235 1 = true := by kernel_rfl

/-- (*Pointer[nameTable]).Store. -/
theorem nt_store_nil (b o : Nat) (u : Value) (w : World) (hc : w.cell? ⟨b, o, none⟩ = some u) (hz : w.frozen? ⟨b, o, none⟩ = false) :
    Calls Yba.prog 20 #[.pointer (some ⟨b, o, none⟩), .pointer none] w fun e w' => e = .returned (.tuple #[]) ∧ w' = w.setCell ⟨b, o, none⟩ (.pointer none) := by
  have hl := run_call_storeP (P := Yba.prog) Yba.func41 (by kernel_rfl) (by kernel_rfl) (by kernel_rfl) (by kernel_rfl) (y := none) hc hz
  have hv : ∀ w : World, (convert 47 63 (.pointer none)).run Yba.prog w = .ok (.pointer none) w := fun w => by
    simp [convert, run_underlying Yba.underlying47, run_underlying Yba.underlying63, Conv.unsafePointer]
  go_enter Yba.func20, Yba.ntmps20
  go_wp2
  go_end0
  exact ⟨rfl, rfl⟩
theorem nt_store (b o tb : Nat) (u v : Value) (w : World) (hc : w.cell? ⟨b, o, none⟩ = some u) (hz : w.frozen? ⟨b, o, none⟩ = false) (ht : w.cell? ⟨tb, 0, none⟩ = some v) :
    Calls Yba.prog 20 #[.pointer (some ⟨b, o, none⟩), .pointer (some ⟨tb, 0, none⟩)] w fun e w' => e = .returned (.tuple #[]) ∧ w' = w.setCell ⟨b, o, none⟩ (.pointer (some ⟨tb, 0, none⟩)) := by
  have hl := run_call_storeP (P := Yba.prog) Yba.func41 (by kernel_rfl) (by kernel_rfl) (by kernel_rfl) (by kernel_rfl) (y := some ⟨tb, 0, none⟩) hc hz
  have hv := run_convert_to_unsafe (P := Yba.prog) Yba.underlying47 Yba.underlying63 (by kernel_rfl) ht
  go_enter Yba.func20, Yba.ntmps20
  go_wp2
  go_end0
  exact ⟨rfl, rfl⟩
/-- (*Pointer[nameTable]).Load. -/
theorem nt_load_nil (b o : Nat) (w : World) (hc : w.cell? ⟨b, o, none⟩ = some (.pointer none)) :
    Calls Yba.prog 25 #[.pointer (some ⟨b, o, none⟩)] w fun e w' => e = .returned (.pointer none) ∧ w' = w := by
  have hl := run_call_loadP (P := Yba.prog) Yba.func46 (by kernel_rfl) (by kernel_rfl) (by kernel_rfl) (by kernel_rfl) hc
  have hv : ∀ w : World, (convert 63 47 (.pointer none)).run Yba.prog w = .ok (.pointer none) w := fun w => by
    simp [convert, run_underlying Yba.underlying47, run_underlying Yba.underlying63, Conv.unsafePointer]
  go_enter Yba.func25, Yba.ntmps25
  go_wp2
  go_ret
  exact ⟨rfl, rfl⟩
theorem nt_load (b o tb : Nat) (w : World) (hc : w.cell? ⟨b, o, none⟩ = some (.pointer (some ⟨tb, 0, none⟩))) (ht : w.shape? tb = some (196, 1)) :
    Calls Yba.prog 25 #[.pointer (some ⟨b, o, none⟩)] w fun e w' => e = .returned (.pointer (some ⟨tb, 0, none⟩)) ∧ w' = w := by
  have hl := run_call_loadP (P := Yba.prog) Yba.func46 (by kernel_rfl) (by kernel_rfl) (by kernel_rfl) (by kernel_rfl) hc
  obtain ⟨j, hj, _⟩ := Yba.infoSome Yba.size196
  have hv := Lib.run_from_unsafe (P := Yba.prog) w (⟨tb, 0, none⟩ : Addr) Yba.underlying63 Yba.underlying47 hj ht Yba.lies196
  clear ht hj
  go_enter Yba.func25, Yba.ntmps25
  go_wp2
  go_ret
  exact ⟨rfl, rfl⟩
/-- (*Pointer[extension]).Store, Load. -/
theorem ext_store (b o tb to : Nat) (u v : Value) (w : World) (hc : w.cell? ⟨b, o, none⟩ = some u) (hz : w.frozen? ⟨b, o, none⟩ = false) (ht : w.cell? ⟨tb, to, none⟩ = some v) :
    Calls Yba.prog 43 #[.pointer (some ⟨b, o, none⟩), .pointer (some ⟨tb, to, none⟩)] w fun e w' => e = .returned (.tuple #[]) ∧ w' = w.setCell ⟨b, o, none⟩ (.pointer (some ⟨tb, to, none⟩)) := by
  have hl := run_call_storeP (P := Yba.prog) Yba.func41 (by kernel_rfl) (by kernel_rfl) (by kernel_rfl) (by kernel_rfl) (y := some ⟨tb, to, none⟩) hc hz
  have hv := run_convert_to_unsafe (P := Yba.prog) Yba.underlying93 Yba.underlying63 (by kernel_rfl) ht
  go_enter Yba.func43, Yba.ntmps43
  go_wp2
  go_end0
  exact ⟨rfl, rfl⟩
theorem ext_load_nil (b o : Nat) (w : World) (hc : w.cell? ⟨b, o, none⟩ = some (.pointer none)) :
    Calls Yba.prog 62 #[.pointer (some ⟨b, o, none⟩)] w fun e w' => e = .returned (.pointer none) ∧ w' = w := by
  have hl := run_call_loadP (P := Yba.prog) Yba.func46 (by kernel_rfl) (by kernel_rfl) (by kernel_rfl) (by kernel_rfl) hc
  have hv : ∀ w : World, (convert 63 93 (.pointer none)).run Yba.prog w = .ok (.pointer none) w := fun w => by
    simp [convert, run_underlying Yba.underlying93, run_underlying Yba.underlying63, Conv.unsafePointer]
  go_enter Yba.func62, Yba.ntmps62
  go_wp2
  go_ret
  exact ⟨rfl, rfl⟩
theorem ext_load (b o tb : Nat) (w : World) (hc : w.cell? ⟨b, o, none⟩ = some (.pointer (some ⟨tb, 9, none⟩))) (ht : w.shape? tb = some (237, 18)) :
    Calls Yba.prog 62 #[.pointer (some ⟨b, o, none⟩)] w fun e w' => e = .returned (.pointer (some ⟨tb, 9, none⟩)) ∧ w' = w := by
  have hl := run_call_loadP (P := Yba.prog) Yba.func46 (by kernel_rfl) (by kernel_rfl) (by kernel_rfl) (by kernel_rfl) hc
  obtain ⟨j, hj, _⟩ := Yba.infoSome Yba.size235
  have hv := Lib.run_from_unsafe (P := Yba.prog) w (⟨tb, 9, none⟩ : Addr) Yba.underlying63 Yba.underlying93 hj ht Yba.lies235
  clear ht hj
  go_enter Yba.func62, Yba.ntmps62
  go_wp2
  go_ret
  exact ⟨rfl, rfl⟩

/-- (*resource).has(queuedFlag), the flags being 0. -/
theorem has_zero (rb : Nat) (w : World) (hc : w.cell? ⟨rb, 5, none⟩ = some (.int .u32 0)) :
    Calls Yba.prog 24 #[.pointer (some ⟨rb, 0, none⟩), .int .u32 1] w fun e w' => e = .returned (.bool false) ∧ w' = w := by
  go_enter Yba.func24, Yba.ntmps24
  go_wp2_with (go_at_call 40; refine (u32_load _ _ _ _ hc).mono ?_; rintro e w' ⟨rfl, rfl⟩)
  go_ret
  exact ⟨rfl, rfl⟩
/-- (*resource).setFlag(queuedFlag, true | false). -/
theorem set_on (rb : Nat) (w : World) (hc : w.cell? ⟨rb, 5, none⟩ = some (.int .u32 0)) (hz : w.frozen? ⟨rb, 5, none⟩ = false) :
    Calls Yba.prog 22 #[.pointer (some ⟨rb, 0, none⟩), .int .u32 1, .bool true] w fun e w' => e = .returned (.tuple #[]) ∧ w' = w.setCell ⟨rb, 5, none⟩ (.int .u32 1) := by
  go_enter Yba.func22, Yba.ntmps22
  go_wp2_with (go_at_call 44; refine (u32_or _ _ 0 1 1 _ hc hz (by rfl)).mono ?_; rintro e w' ⟨rfl, rfl⟩)
  go_end0
  exact ⟨rfl, rfl⟩
theorem set_off (rb : Nat) (x : Int) (hx : x = 0 ∨ x = 1) (w : World) (hc : w.cell? ⟨rb, 5, none⟩ = some (.int .u32 x)) (hz : w.frozen? ⟨rb, 5, none⟩ = false) :
    Calls Yba.prog 22 #[.pointer (some ⟨rb, 0, none⟩), .int .u32 1, .bool false] w fun e w' => e = .returned (.tuple #[]) ∧ w' = w.setCell ⟨rb, 5, none⟩ (.int .u32 0) := by
  have hs : ∀ w : World, (Op.intBits .and .u32 x 4294967294).run Yba.prog w = .ok (.int .u32 0) w := fun w => by
    rcases hx with rfl | rfl <;> rfl
  have HS : Hid _ := hs
  clear hs hx
  go_enter Yba.func22, Yba.ntmps22
  go_wp2_with (go_at_call 45; refine (u32_and _ _ x 4294967294 0 _ hc hz (HS.out _)).mono ?_; rintro e w' ⟨rfl, rfl⟩)
  go_end0
  exact ⟨rfl, rfl⟩
/-- (*resource).top. -/
theorem top_self (rb : Nat) (w : World) (hc : w.cell? ⟨rb, 4, none⟩ = some (.pointer none)) :
    Calls Yba.prog 42 #[.pointer (some ⟨rb, 0, none⟩)] w fun e w' => e = .returned (.pointer (some ⟨rb, 0, none⟩)) ∧ w' = w := by
  go_enter Yba.func42, Yba.ntmps42
  go_wp2_with (go_at_call 62; refine (ext_load_nil _ _ _ hc).mono ?_; rintro e w' ⟨rfl, rfl⟩)
  go_ret
  exact ⟨rfl, rfl⟩
theorem top_tree (rb : Nat) (p q : Addr) (w : World) (hc : w.cell? ⟨rb, 4, none⟩ = some (.pointer (some ⟨rb, 9, none⟩))) (hs : w.shape? rb = some (237, 18))
    (hp : w.cell? ⟨rb, 15, none⟩ = some (.pointer (some p))) (hq : w.cell? ⟨rb, 16, none⟩ = some (.pointer (some q))) :
    Calls Yba.prog 42 #[.pointer (some ⟨rb, 0, none⟩)] w fun e w' => e = .returned (.pointer (some q)) ∧ w' = w := by
  go_enter Yba.func42, Yba.ntmps42
  go_wp2_with (go_at_call 62; refine (ext_load _ _ _ _ hc hs).mono ?_; rintro e w' ⟨rfl, rfl⟩)
  go_ret
  exact ⟨rfl, rfl⟩
end Go.Proofs.Ybulkamzi
