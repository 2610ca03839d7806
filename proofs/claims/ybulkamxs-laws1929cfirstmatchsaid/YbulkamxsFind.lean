import Derived.Test.YbulkamxsProg
import Derived.WalkKit
import Derived.WalkSpells
import Derived.WalkLawsBesides
namespace Go.Proofs.Ybulkamxs
open Go.RowKit

theorem hid {p : Prop} (h : p) : Hid p := h
/-- A cell that was there is there behind one new block and 'Below'. -/
theorem old_cell1 {w wr : World} {o : Obj} {a : Addr} {v : Value} (hb : Below (w.heap.size + 1) (w.alloc o) wr) (h : w.cell? a = some v) : wr.cell? a = some v := by
  have hl := block_lt_of_cell h
  rw [hb.cell (by omega), World.cell?_alloc_lt _ _ _ hl, h]
theorem new_cell1 {w wr : World} {c : Array Value} {t : TypeId} (hb : Below (w.heap.size + 1) (w.alloc (.cells c t)) wr) (j : Nat) : wr.cell? ⟨w.heap.size, j, none⟩ = c[j]? := by
  rw [hb.cell (by simp)]; simp
theorem new_frozen1 {w wr : World} {c : Array Value} {t : TypeId} (hb : Below (w.heap.size + 1) (w.alloc (.cells c t)) wr) (j : Nat) : wr.frozen? ⟨w.heap.size, j, none⟩ = false := by
  rw [hb.frozen (by simp)]; simp

theorem below1 {w wr : World} {o : Obj} (hb : Below (w.heap.size + 1) (w.alloc o) wr) : Below w.heap.size w wr := ((Below.refl _ _).alloc (Nat.le_refl _) _).trans (hb.mono (by omega))

/-- None of the first k items bears that code and vendor. -/
def Miss (C V : Nat → Int) (c v : Int) (k : Nat) : Prop := ∀ i, i < k → ¬ (C i = c ∧ V i = v)
theorem step_no {C V : Nat → Int} {c v : Int} {k : Nat} (h : Miss C V c v k) (hk : ¬ (C k = c ∧ V k = v)) : Miss C V c v (k + 1) := by
  intro i hi
  rcases Nat.lt_or_ge i k with h' | h'
  · exact h i h'
  · have : i = k := by omega
    subst this; exact hk

/-- The cells of an AVP row of 'n' elements at block b, from offset 0. -/
def Avps (w : World) (b n : Nat) (C F V : Nat → Int) (D : Nat → Value) : Prop :=
  ∀ i, i < n → w.cell? ⟨b, i * 4, none⟩ = some (.int .u32 (C i)) ∧ w.cell? ⟨b, i * 4 + 1, none⟩ = some (.int .u8 (F i)) ∧
    w.cell? ⟨b, i * 4 + 2, none⟩ = some (.int .u32 (V i)) ∧ w.cell? ⟨b, i * 4 + 3, none⟩ = some (D i)

set_option maxHeartbeats 400000 in
theorem find_any (mb ab n : Nat) (C F V : Nat → Int) (db : Nat) (code vendor : Int) (w : World) (hn : n ≤ 1024)
    (hm : w.cell? ⟨mb, 7, none⟩ = some (.slice (some ⟨ab, 0, none⟩) n n))
    (ha : Avps w ab n C F V (fun i => .slice (some ⟨db, i, none⟩) 1 1)) :
    Calls Yba.prog 14 #[.pointer (some ⟨mb, 0, none⟩), .int .u32 code, .int .u32 vendor] w fun e w' => Below w.heap.size w w' ∧
      ((∃ j, j < n ∧ C j = code ∧ V j = vendor ∧ Miss C V code vendor j ∧
        e = .returned (.tuple #[.agg #[.int .u32 (C j), .int .u8 (F j), .int .u32 (V j), .slice (some ⟨db, j, none⟩) 1 1], .bool true])) ∨
       (Miss C V code vendor n ∧
        e = .returned (.tuple #[.agg #[.int .u32 0, .int .u8 0, .int .u32 0, .slice none 0 0], .bool false]))) := by
  have hmb : mb < w.heap.size := block_lt_of_cell hm
  go_enter Yba.func14, Yba.ntmps14
  go_wp2
  go_loopw [15] (fun i wr => ∃ k : Nat, k ≤ n ∧ i = .int .i64 k ∧ Miss C V code vendor k ∧ Below (w.heap.size + 1) (w.alloc (.cells #[.int .u32 0, .int .u8 0, .int .u32 0, .slice none 0 0] 44)) wr)
    (fun i _ => n - (intOf i).toNat)
  case atStart => exact ⟨0, Nat.zero_le _, rfl, fun i h => absurd h (Nat.not_lt_zero _), Below.refl _ _⟩
  case round =>
    obtain ⟨k, hk, rfl, hno, hb⟩ := hrel
    have HNO := hid hno
    clear hno
    by_cases hlt : k < n
    · obtain ⟨a0, a1, a2, a3⟩ := ha k hlt
      have hab : ab < w.heap.size := block_lt_of_cell a0
      have b0 := old_cell1 hb a0
      have b1 := old_cell1 hb a1
      have b2 := old_cell1 hb a2
      have b3 := old_cell1 hb a3
      have r0 := new_cell1 hb 0
      have r1 := new_cell1 hb 1
      have r2 := new_cell1 hb 2
      have r3 := new_cell1 hb 3
      have f0 := new_frozen1 hb 0
      have f1 := new_frozen1 hb 1
      have f2 := new_frozen1 hb 2
      have f3 := new_frozen1 hb 3
      have hz : w.heap.size < wr.heap.size := by have := hb.size; simp at this; omega
      have hz2 : ab < wr.heap.size := by omega
      simp only [List.getElem?_toArray, List.getElem?_cons_succ, List.getElem?_cons_zero] at r0 r1 r2 r3
      clear ha hm a0 a1 a2 a3 hmb
      by_cases hc : C k = code
      · by_cases hv : V k = vendor
        · have HC := hid hc
          have HV := hid hv
          have ec : (C k == code) = true := by simp [hc]
          have ev : (V k == vendor) = true := by simp [hv]
          clear hc hv
          go_wp2
          refine bodyPost_ret (v := .tuple #[.agg #[.int .u32 (C k), .int .u8 (F k), .int .u32 (V k), .slice (some ⟨db, k, none⟩) 1 1], .bool true]) (by simp [results, Yba.results14, go_sem, r0, r1, r2, r3, hz]) rfl ⟨?_, .inl ⟨k, hlt, HC.out, HV.out, HNO.out, rfl⟩⟩
          exact (((((below1 hb).setCell (Nat.le_refl _) _).setCell (Nat.le_refl _) _).setCell (Nat.le_refl _) _).setCell (Nat.le_refl _) _).alloc (by simp; omega) _
        · have HN : Hid (¬ (C k = code ∧ V k = vendor)) := fun h => hv h.2
          have ec : (C k == code) = true := by simp [hc]
          have ev : (V k == vendor) = false := by simp [hv]
          clear hc hv
          go_wp2
          go_roundw
          case rel => exact ⟨k + 1, by omega, by go_num, step_no HNO.out HN.out, hb.alloc (by omega) _⟩
          case measure => simp [intOf]; omega
      · have HN : Hid (¬ (C k = code ∧ V k = vendor)) := fun h => hc h.1
        have ec : (C k == code) = false := by simp [hc]
        clear hc
        go_wp2
        go_roundw
        case rel => exact ⟨k + 1, by omega, by go_num, step_no HNO.out HN.out, hb.alloc (by omega) _⟩
        case measure => simp [intOf]; omega
    · have hkn : n ≤ k := by omega
      have r0 := new_cell1 hb 0
      have r1 := new_cell1 hb 1
      have r2 := new_cell1 hb 2
      have r3 := new_cell1 hb 3
      have f0 := new_frozen1 hb 0
      have f1 := new_frozen1 hb 1
      have f2 := new_frozen1 hb 2
      have f3 := new_frozen1 hb 3
      have hz : w.heap.size < wr.heap.size := by have := hb.size; simp at this; omega
      simp only [List.getElem?_toArray, List.getElem?_cons_succ, List.getElem?_cons_zero] at r0 r1 r2 r3
      clear ha hm hmb
      go_wp2
      refine bodyPost_ret (v := .tuple #[.agg #[.int .u32 0, .int .u8 0, .int .u32 0, .slice none 0 0], .bool false]) (by simp [results, Yba.results14, go_sem, r0, r1, r2, r3]) rfl ⟨?_, .inr ⟨fun i hi => HNO.out i (by omega), rfl⟩⟩
      exact ((((below1 hb).setCell (Nat.le_refl _) _).setCell (Nat.le_refl _) _).setCell (Nat.le_refl _) _).setCell (Nat.le_refl _) _
end Go.Proofs.Ybulkamxs
