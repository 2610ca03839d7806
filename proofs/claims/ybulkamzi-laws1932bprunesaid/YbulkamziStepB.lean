import Derived.Test.YbulkamziLStB
namespace Go.Proofs.Ybulkamzi
open Go.RowKit
set_option linter.unusedVariables false
set_option linter.unusedSimpArgs false

/-- What holds behind the switch of the first loop: s: the heap's size when the round began. -/
def Sw (wr wc : World) (s k : Nat) (kd : Nat → Nat) (sp : Int) (cv : Bool) : Prop :=
  ∃ lnv, Res wc (s + 1) (lkO kd k) lnv (flO kd k) 0 ∧ ((kd k = 1 → ∃ x, lnv = some x) ∧ (kd k ≠ 1 → lnv = none)) ∧ Below wr.heap.size wr wc ∧ wc.cell? ⟨s, 0, none⟩ = some (.int .u32 sp) ∧ wc.cell? ⟨s, 2, none⟩ = some (.bool cv) ∧ s + 2 ≤ wc.heap.size

theorem sw_start (wr : World) (sp kq : Int) (cv : Bool) (E Z : Array Value) (hE : E = #[.int .u32 sp, .int .u8 kq, .bool cv])
    (hZ : Z = #[.int .i32 0, .int .u32 0, .string ⟨#[]⟩, .pointer none, .pointer none, .int .u32 0, .int .u16 0, .int .u8 0, .int .u8 0]) :
    Res ((wr.alloc (.cells E 91)).alloc (.cells Z 101)) (wr.heap.size + 1) 0 none 0 0 ∧ Below wr.heap.size wr ((wr.alloc (.cells E 91)).alloc (.cells Z 101)) ∧
      ((wr.alloc (.cells E 91)).alloc (.cells Z 101)).cell? ⟨wr.heap.size, 0, none⟩ = some (.int .u32 sp) ∧ ((wr.alloc (.cells E 91)).alloc (.cells Z 101)).cell? ⟨wr.heap.size, 1, none⟩ = some (.int .u8 kq) ∧ ((wr.alloc (.cells E 91)).alloc (.cells Z 101)).cell? ⟨wr.heap.size, 2, none⟩ = some (.bool cv) ∧
      ((wr.alloc (.cells E 91)).alloc (.cells Z 101)).heap.size = wr.heap.size + 2 := by
  have o1 := heap_alloc2_old wr (.cells E 91) (.cells Z 101)
  have o2 := heap_alloc2_new wr (.cells E 91) (.cells Z 101)
  refine ⟨⟨Z, o2, ?_⟩, ((Below.refl _ wr).alloc (Nat.le_refl _) _).alloc (by simp) _, ?_, ?_, ?_, by simp⟩
  · subst hZ; exact ⟨rfl, rfl, rfl, rfl, rfl, rfl⟩
  all_goals (rw [cell_of_row _ _ _ _ _ _ o1, hE]; rfl)

section
variable {wr w4 : World} {s k : Nat} {kd : Nat → Nat} {sp : Int} {cv : Bool}
theorem sw_none (hs : s = wr.heap.size) (q1 : Res w4 (s + 1) 0 none 0 0) (q2 : Below wr.heap.size wr w4) (q3 : w4.cell? ⟨s, 0, none⟩ = some (.int .u32 sp)) (q5 : w4.cell? ⟨s, 2, none⟩ = some (.bool cv)) (q6 : w4.heap.size = s + 2) (h : kd k = 0) : Sw wr w4 s k kd sp cv :=
  ⟨none, by simpa [lkO, flO, h] using q1, ⟨fun h' => by omega, fun _ => rfl⟩, q2, q3, q5, by omega⟩
theorem sw_lone (hs : s = wr.heap.size) (q1 : Res w4 (s + 1) 0 none 0 0) (q2 : Below wr.heap.size wr w4) (q3 : w4.cell? ⟨s, 0, none⟩ = some (.int .u32 sp)) (q5 : w4.cell? ⟨s, 2, none⟩ = some (.bool cv)) (q6 : w4.heap.size = s + 2) (h : kd k = 1) (o : Obj) (x : Addr) :
    Sw wr ((w4.alloc o).setCell ⟨s + 1, 3, none⟩ (.pointer (some x))) s k kd sp cv := by
  have hb : Below w4.heap.size w4 (w4.alloc o) := (Below.refl _ w4).alloc (Nat.le_refl _) _
  have r := (q1.of_heap (hb.block (s + 1) (by omega))).lone (some x)
  refine ⟨some x, by simpa [lkO, flO, h] using r, ⟨fun _ => ⟨x, rfl⟩, fun h' => absurd h h'⟩, (q2.trans (hb.mono q2.size)).setCell (show wr.heap.size ≤ s + 1 by omega) _, ?_, ?_, ?_⟩
  · rw [World.cell?_setCell_other _ _ _ _ (by simp)]; exact (hb.cell (p := ⟨s, 0, none⟩) (by show s < w4.heap.size; omega)).trans q3
  · rw [World.cell?_setCell_other _ _ _ _ (by simp)]; exact (hb.cell (p := ⟨s, 2, none⟩) (by show s < w4.heap.size; omega)).trans q5
  · rw [World.size_setCell]; have := hb.size; omega
theorem sw_queue (hs : s = wr.heap.size) (q1 : Res w4 (s + 1) 0 none 0 0) (q2 : Below wr.heap.size wr w4) (q3 : w4.cell? ⟨s, 0, none⟩ = some (.int .u32 sp)) (q5 : w4.cell? ⟨s, 2, none⟩ = some (.bool cv)) (q6 : w4.heap.size = s + 2) (h : kd k = 2) :
    Sw wr (w4.setCell ⟨s + 1, 5, none⟩ (.int .u32 1)) s k kd sp cv := by
  refine ⟨none, by simpa [lkO, flO, h] using q1.flag 1, ⟨fun h' => by omega, fun _ => rfl⟩, q2.setCell (show wr.heap.size ≤ s + 1 by omega) _, ?_, ?_, ?_⟩
  · rw [World.cell?_setCell_other _ _ _ _ (by simp)]; exact q3
  · rw [World.cell?_setCell_other _ _ _ _ (by simp)]; exact q5
  · rw [World.size_setCell]; omega
theorem sw_lock (hs : s = wr.heap.size) (q1 : Res w4 (s + 1) 0 none 0 0) (q2 : Below wr.heap.size wr w4) (q3 : w4.cell? ⟨s, 0, none⟩ = some (.int .u32 sp)) (q5 : w4.cell? ⟨s, 2, none⟩ = some (.bool cv)) (q6 : w4.heap.size = s + 2) (h : kd k = 3) :
    Sw wr (w4.setCell ⟨s + 1, 0, none⟩ (.int .i32 1)) s k kd sp cv := by
  refine ⟨none, by simpa [lkO, flO, h] using q1.lock 1, ⟨fun h' => by omega, fun _ => rfl⟩, q2.setCell (show wr.heap.size ≤ s + 1 by omega) _, ?_, ?_, ?_⟩
  · rw [World.cell?_setCell_other _ _ _ _ (by simp)]; exact q3
  · rw [World.cell?_setCell_other _ _ _ _ (by simp)]; exact q5
  · rw [World.size_setCell]; omega
end

/-- put, and the store of the new top into 'res'. -/
theorem put_step {w wr w6 : World} {B m n k s : Nat} {rb spot kd : Nat → Nat} {ct : Nat → Bool} {ln : Nat → Option Addr} {R : Nat → Option Nat} {lnv : Option Addr} (h : LSt w wr B m n k rb spot kd ct ln R) (hn : Pow n) (hk : k < m) (hkn : k < n) (hs : s = wr.heap.size) (hsp : spot k < 4294967296)
    (h5 : Below wr.heap.size wr w6) (hr : Res w6 (s + 1) (lkO kd k) lnv (flO kd k) (tf0 ct k)) (hlc : (kd k = 1 → ∃ x, lnv = some x) ∧ (kd k ≠ 1 → lnv = none)) :
    Calls Yba.prog 12 #[.pointer (some ⟨B + 1, 0, none⟩), .pointer (some ⟨s + 1, 0, none⟩), .int .u32 (spot k : Nat)] w6 fun e w' => e = .returned (.tuple #[]) ∧ (∃ u, w'.cell? ⟨B + 3, k, none⟩ = some u) ∧ w'.frozen? ⟨B + 3, k, none⟩ = false ∧
      ∃ rb' ln' R', LSt w (w'.setCell ⟨B + 3, k, none⟩ (.pointer (some ⟨s + 1, 0, none⟩))) B m n (k + 1) rb' spot kd ct ln' R' := by
  have hsz := h.size
  have t6 : Tab w6 (B + 1) B n (updB rb k (s + 1)) spot R := (h.tab.below h5 (by omega) (by omega) (fun p j hp hj => (h.rbs j (h.mem p j hp hj)).2)).congr (fun p j hp hj => by have := h.mem p j hp hj; rw [updB_other _ _ _ _ (by omega)])
  have e1 : updB rb k (s + 1) k = s + 1 := updB_same _ _ _
  have pw := put_walk (B + 1) B n k (updB rb k (s + 1)) spot R hn w6 t6 _ (by rw [e1]; exact hr.cells.1) (by rw [e1]; omega) hsp (h.free hkn)
  rw [e1] at pw
  refine pw.mono ?_
  rintro e w' ⟨rfl, T, hT, hfull, hemp, rfl⟩
  have c6 : Chg (fun x => x = B) w6 (putAt w6 B (P n (spot k % n) T) (some ⟨s + 1, 0, none⟩) (spot k : Nat)) := (Chg.refl (fun x => x = B) w6).putAt (show B = B from rfl) _ _ _
  have r6 := (h.row.of_heap (h5.block _ (by omega))).of_heap (c6.block (B + 3) (by omega))
  obtain ⟨u1, u2⟩ := r6.there hk
  exact ⟨rfl, u1, u2, _, _, _, lst_step h hn hk h5 (by omega) hr hlc hT hfull hemp h5.size⟩

theorem lst_env {w wr : World} {B m n : Nat} {rb spot kd : Nat → Nat} {ct : Nat → Bool} {ln : Nat → Option Addr} {R : Nat → Option Nat} (h : LSt w wr B m n m rb spot kd ct ln R) (hsp : ∀ k, spot k < 4294967296) : Env (B + 1) B (B + 2) m rb spot := by
  have hr : ∀ j, B + 3 ≤ rb j := fun j => by
    rcases Nat.lt_or_ge j m with hj | hj
    · have := h.rbs j hj; omega
    · rw [h.rbd j hj]; omega
  refine ⟨by omega, by omega, by omega, fun k => ?_, fun k => ?_, fun k => ?_, h.inj, hsp⟩
  all_goals (have := hr k; omega)
theorem lst_prune {w wr : World} {B m n : Nat} {rb spot kd : Nat → Nat} {ct : Nat → Bool} {ln : Nat → Option Addr} {R : Nat → Option Nat} (h : LSt w wr B m n m rb spot kd ct ln R) (hn : Pow n) (f : Nat) (hf : f < n) (hR : R f = none) :
    PSt wr (B + 1) B (B + 2) m n f rb spot kd ct ln R (fun _ => 0) 0 := by
  have hz : cntB (fun k => (fun _ => 0 : Nat → Nat) k == 2) m = 0 := cntB_false (fun _ => rfl) m
  refine ⟨h.tab, fun k hk => h.res k hk, ⟨fun _ => 0, ?_, ?_⟩, ⟨by rw [P_zero hf]; exact hR, h.good f hf hR, fun t ht k hk => ⟨h.mem _ k (P_lt hf) hk, fun h' => by omega, fun _ => rfl⟩, fun t s ht hs k h1 h2 => P_inj hf ht hs (h.uniq _ _ k (P_lt hf) (P_lt hf) h1 h2), fun k hk _ => ?_⟩, fun k hk => ⟨by omega, fun h' => (by cases h'), fun h' => (by cases h')⟩⟩
  · rw [hz]; exact h.sh
  · intro _ k _ h'; cases h'
  · obtain ⟨p, hp, hpk⟩ := h.all k hk
    obtain ⟨t, ht, htp⟩ := P_surj hf hp
    exact ⟨t, ht, by rw [htp]; exact hpk⟩
end Go.Proofs.Ybulkamzi
