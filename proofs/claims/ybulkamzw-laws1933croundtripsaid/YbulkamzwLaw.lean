import Derived.Test.YbulkamzwApp
namespace Go.Proofs.Ybulkamzw
open Go.RowKit

/-- The digits' bytes as numbers; and all bytes of the text. -/
def digB (ds : List Nat) : List Int := ds.map fun (d : Nat) => 48 + (d : Int)
def allB (ds : List Nat) (u : Nat) (str : ByteArray) : List Int := digB ds ++ [(u : Int)] ++ str.data.toList.map fun b => (b.toNat : Int)
theorem digB_length (ds : List Nat) : (digB ds).length = ds.length := by simp [digB]
theorem allB_length (ds : List Nat) (u : Nat) (str : ByteArray) : (allB ds u str).length = ds.length + 1 + str.size := by
  simp [allB, digB_length]; omega
theorem digB_vals (ds : List Nat) : (digB ds).map (Value.int .u8) = bytes ds := by simp [digB, bytes]
theorem allB_vals (ds : List Nat) (u : Nat) (str : ByteArray) : (allB ds u str).map (Value.int .u8) = bytes ds ++ [.int .u8 (u : Int)] ++ Lib.strCells str := by
  simp [allB, digB_vals, Lib.strCells]
theorem digB_get (ds : List Nat) (i : Nat) (h : i < ds.length) : (digB ds).getD i 0 = 48 + ((ds[i] : Nat) : Int) := by
  simp [digB, h]
theorem allB_get (ds : List Nat) (u : Nat) (str : ByteArray) (i : Nat) (h : i < ds.length) : (allB ds u str).getD i 0 = 48 + ((ds[i] : Nat) : Int) := by
  rw [← digB_get ds i h, List.getD_eq_getElem?_getD, List.getD_eq_getElem?_getD, allB, List.append_assoc, List.getElem?_append_left (by rw [digB_length]; exact h)]
theorem allB_sep (ds : List Nat) (u : Nat) (str : ByteArray) : (allB ds u str).getD ds.length 0 = (u : Int) := by
  rw [List.getD_eq_getElem?_getD, allB, List.append_assoc, List.getElem?_append_right (by rw [digB_length]; exact Nat.le_refl _), digB_length]
  simp
theorem digB_bound {ds : List Nat} {x : Nat} (h : Num ds x) : ∀ n ∈ digB ds, 0 ≤ n ∧ n < 256 := by
  intro n hn
  simp only [digB, List.mem_map] at hn
  obtain ⟨d, hd, rfl⟩ := hn
  have := h.dig d hd
  omega
theorem allB_bound {ds : List Nat} {x u : Nat} (h : Num ds x) (hu : u < 256) (str : ByteArray) : ∀ n ∈ allB ds u str, 0 ≤ n ∧ n < 256 := by
  intro n hn
  simp only [allB, List.mem_append, List.mem_singleton, List.mem_map] at hn
  rcases hn with (hn | hn) | ⟨b, _, rfl⟩
  · exact digB_bound h n hn
  · omega
  · have := b.toNat_lt; omega
theorem pre_all {ds : List Nat} {x u : Nat} (h : Num ds x) (hu : u = 120 ∨ u = 46 ∨ u = 45 ∨ u = 32) (str : ByteArray) : Pre ds x (ds.length + 1 + str.size) (fun i => (allB ds u str).getD i 0) := by
  refine ⟨h, by omega, fun i hi => allB_get ds u str i hi, fun _ => ?_⟩
  show (allB ds u str).getD ds.length 0 = 120 ∨ _
  rw [allB_sep]; omega
theorem pre_dig {ds : List Nat} {x : Nat} (h : Num ds x) : Pre ds x ds.length (fun i => (digB ds).getD i 0) :=
  ⟨h, Nat.le_refl _, fun i hi => digB_get ds i hi, fun h => absurd h (Nat.lt_irrefl _)⟩

theorem same_cap {w : World} {g n n' cap cap' : Nat} {xs ys : List Value} (h : ByteRow w g n cap xs) (h' : ByteRow w g n' cap' ys) : cap = cap' := by
  obtain ⟨c, e1, e2, _⟩ := h
  obtain ⟨c', e1', e2', _⟩ := h'
  rw [e1] at e1'
  simp only [Option.some.injEq, Obj.cells.injEq, and_true] at e1'
  rw [← e2, ← e2', e1']

/-- What stands behind the two appends. -/
structure Fin (w w3 : World) (ds : List Nat) (m u : Nat) (str : ByteArray) (g cap g3 cap3 : Nat) : Prop where
  d : ByteRow w3 g m cap ((digB ds).map (Value.int .u8))
  b : ByteRow w3 g3 (m + 1 + str.size) cap3 ((allB ds u str).map (Value.int .u8))
  below : Below w.heap.size w w3
theorem fin_of {w w1 w2 w3 : World} {ds : List Nat} {m u : Nat} {str : ByteArray} {g cap g2 cap2 g3 cap3 : Nat} {o : Obj} (hg : w.heap.size ≤ g) (hr : ByteRow w1 g m cap (bytes ds)) (hb : Below w.heap.size w w1)
    (h2 : App (w1.alloc o) w2 g m cap (bytes ds) [.int .u8 (u : Int)] g2 cap2) (h3 : App w2 w3 g2 (m + 1) cap2 (bytes ds ++ [.int .u8 (u : Int)]) (Lib.strCells str) g3 cap3) : Fin w w3 ds m u str g cap g3 cap3 := by
  have hr1 : ByteRow (w1.alloc o) g m cap (bytes ds) := hr.of_heap (Below.heap_alloc _ _ _ hr.lt)
  have hr2 := h2.old m _ (Nat.le_refl _) hr1
  have hs1 := hb.size
  have hb2 : Below w.heap.size w w2 := (hb.alloc hs1 o).trans (h2.below hg (by simp; omega))
  have hs2 := hb2.size
  have hg2 : w.heap.size ≤ g2 := by
    rcases h2.base with e | e
    · omega
    · simp at e; omega
  refine ⟨?_, ?_, hb2.trans (h3.below hg2 hs2)⟩
  · rw [digB_vals]
    by_cases e : g2 = g
    · subst e
      have ec := same_cap hr2 h2.new
      subst ec
      exact h3.old m _ (by omega) hr2
    · exact hr2.of_heap (h3.frame g hr2.lt (Ne.symm e))
  · rw [allB_vals]
    have := h3.new
    rw [Lib.strCells_length] at this
    exact this

set_option maxHeartbeats 1000000 in
theorem law_main (x0 : Int) (k0 : Int) (str : ByteArray) (w : World) (hx0 : 0 ≤ x0) (hx1 : x0 < 4294967296) (hk0 : 0 ≤ k0) (hk1 : k0 < 256) (hs : str.size ≤ 1024) :
    Calls Yba.prog 4 #[.int .u32 x0, .int .u8 k0, .string str] w fun e w' => e = .returned (.bool true) ∧ Below w.heap.size w w' := by
  obtain ⟨x, hxl, hx⟩ : ∃ x : Nat, x < 1000000000 ∧ x0 % 1000000000 = (x : Int) := ⟨(x0 % 1000000000).toNat, by omega, by omega⟩
  obtain ⟨k, hkl, hk⟩ : ∃ k : Nat, k < 4 ∧ k0 % 4 = (k : Int) := ⟨(k0 % 4).toNat, by omega, by omega⟩
  obtain ⟨u, hu, hus⟩ : ∃ u : Nat, ((⟨#[120, 46, 45, 32]⟩ : ByteArray)[k]'(by show k < 4; exact hkl)).toNat = u ∧ (u = 120 ∨ u = 46 ∨ u = 45 ∨ u = 32) := by
    match k, hkl with
    | 0, _ => exact ⟨120, rfl, .inl rfl⟩
    | 1, _ => exact ⟨46, rfl, .inr (.inl rfl)⟩
    | 2, _ => exact ⟨45, rfl, .inr (.inr (.inl rfl))⟩
    | 3, _ => exact ⟨32, rfl, .inr (.inr (.inr rfl))⟩
  have HUS := hid hus
  clear hus
  go_enter Yba.func4, Yba.ntmps4
  go_wp2_with fail
  refine (dec_any x hxl _).mono ?_
  rintro e w1 ⟨g, cap, ds, rfl, hg, hrow, hnum, hb1⟩
  obtain ⟨m, hm⟩ : ∃ m, ds.length = m := ⟨_, rfl⟩
  have hm9 := hnum.len
  have hm0 := hnum.pos
  rw [hm] at hrow hm9 hm0 ⊢
  have HN := hid hnum
  have HM := hid hm
  have HR := hid hrow
  have HB1 := hid hb1
  have hz1 := hb1.size
  clear hnum hm hrow hb1
  have tok1 : True := trivial
  go_wp2_with (first
    | (at_builtin; have _t := tok1; refine wpList_app_byte _ (by rfl) (.tmp 26) (.tmp 32) (by rfl) g m cap (bytes ds) (by rfl) (by exact HR.out.of_heap (Below.heap_alloc _ _ _ HR.out.lt)) (by omega) ⟨w1.heap.size, 0, none⟩ (u : Int) (by rfl) (by simp) ?_; intro g2 cap2 w2 ha2; clear tok1)
    | (at_builtin; refine wpList_app_str _ (by rfl) (.tmp 34) (.tmp 35) (by rfl) g2 (m + 1) cap2 _ (by rfl) ha2.new (by omega) str (by omega) (by rfl) ?_; intro g3 cap3 w3 ha3))
  have hf := fin_of hg HR.out HB1.out ha2 ha3
  have HF := hid hf
  clear ha2 ha3 hf
  have hml := HM.out
  have hnp := np_bytes g3 (m + 1 + str.size) cap3 (fun i => (allB ds u str).getD i 0) ds x w3 (by omega) (fun i hi => by
    rw [HF.out.b.cell hi, List.getElem?_map, List.getElem?_eq_getElem (by rw [allB_length]; omega)]
    rw [List.getD_eq_getElem?_getD, List.getElem?_eq_getElem (by rw [allB_length]; omega)]; rfl) (by rw [← hml]; exact pre_all HN.out HUS.out str)
  have hcv := run_string_row HF.out.b
  have hcd := run_string_row HF.out.d
  have hsz : (strOf (allB ds u str)).size = m + 1 + str.size := by rw [strOf_size, allB_length, hml]
  have hsd : (strOf (digB ds)).size = m := by rw [strOf_size, digB_length, hml]
  have hns := np_string (strOf (allB ds u str)) (fun i => (allB ds u str).getD i 0) ds x w3 (by omega) (fun i h => strOf_get _ i h (allB_bound HN.out (by have := HUS.out; omega) str)) (by rw [hsz, ← hml]; exact pre_all HN.out HUS.out str)
  have hnn := numeral_any (strOf (digB ds)) (fun i => (digB ds).getD i 0) ds x w3 (by omega) (fun i h => strOf_get _ i h (digB_bound HN.out)) (by rw [hsd, ← hml]; exact pre_dig HN.out) (by omega)
  rw [hml] at hnp hns
  have HNP := hid hnp
  have HNS := hid hns
  have HNN := hid hnn
  have ex : ((x : Int) != (x : Int)) = false := by simp
  have ex2 : ((x : Int) == (x : Int)) = true := by simp
  have em : ((m : Int) != (m : Int)) = false := by simp
  clear hnp hns hnn hml hsz hsd
  generalize strOf (allB ds u str) = sA at *
  generalize strOf (digB ds) = sD at *
  refine HNP.out.mono ?_
  rintro e w' ⟨rfl, rfl⟩
  go_wp2_with (first | (go_at_call 6; refine HNS.out.mono ?_; rintro e w'' ⟨rfl, rfl⟩) | (go_at_call 9; refine HNN.out.mono ?_; rintro e w'' ⟨rfl, rfl⟩))
  go_ret
  exact ⟨rfl, HF.out.below⟩
end Go.Proofs.Ybulkamzw
