import Derived.Test.YbulkamzwPlain
import Derived.Deep.AppendLies
namespace Go.Proofs.Ybulkamzw
open Go.RowKit

theorem Yba.info5 : (Yba.prog.info? 5).map (fun i => (i.zero, i.size, i.bytes)) = some (some (.int .u8 0), 1, 1) := by kernel_rfl

/-- The reversal after k swaps. -/
def rv (L : List Nat) (m k t : Nat) : Nat := if t < k ∨ m ≤ t + k then L.getD (m - 1 - t) 0 else L.getD t 0
structure RevRow (w : World) (g m cap : Nat) (L : List Nat) (k : Nat) : Prop where
  row : ∃ cur, w.heap[g]? = some (.cells cur 5 (0, 0)) ∧ cur.size = cap ∧ ∀ t, t < m → cur[t]? = some (.int .u8 (48 + (rv L m k t : Int)))

theorem RevRow.start {w : World} {g cap : Nat} {L : List Nat} (h : ByteRow w g L.length cap (bytes L)) : RevRow w g L.length cap L 0 := by
  obtain ⟨cur, h1, h2, h3, h4, h5, h6⟩ := h
  refine ⟨cur, h1, h2, fun t ht => ?_⟩
  have e : cur.toList[t]? = (bytes L)[t]? := by rw [← h6, List.getElem?_take, if_pos ht]
  rw [bytes_get L t ht] at e
  rw [rv, if_neg (by omega)]
  simp only [List.getD_eq_getElem?_getD, List.getElem?_eq_getElem ht, Option.getD_some]
  simpa using e
theorem RevRow.cell {w : World} {g m cap k t : Nat} {L : List Nat} (h : RevRow w g m cap L k) (ht : t < m) : w.cell? ⟨g, t, none⟩ = some (.int .u8 (48 + (rv L m k t : Int))) ∧ w.frozen? ⟨g, t, none⟩ = false := by
  obtain ⟨cur, h1, _, h3⟩ := h.row
  exact ⟨(cell_of_row _ _ _ _ _ _ h1).trans (h3 t ht), frozen_of_row _ _ _ _ _ h1⟩
theorem RevRow.step {w : World} {g m cap k j : Nat} {L : List Nat} (h : RevRow w g m cap L k) (hj : k + j + 1 = m) (hk : k < j) (hm : m ≤ cap) :
    RevRow ((w.setCell ⟨g, k, none⟩ (.int .u8 (48 + (rv L m k j : Int)))).setCell ⟨g, j, none⟩ (.int .u8 (48 + (rv L m k k : Int)))) g m cap L (k + 1) := by
  obtain ⟨cur, h1, h2, h3⟩ := h.row
  refine ⟨_, heap_setCell_same _ _ _ _ _ _ (heap_setCell_same _ _ _ _ _ _ h1), by simp [h2], fun t ht => ?_⟩
  simp only [Array.getElem?_setIfInBounds, Array.size_setIfInBounds]
  by_cases e1 : j = t
  · subst e1
    rw [if_pos rfl, if_pos (by omega), rv, rv, if_neg (by omega), if_pos (by omega), show m - 1 - j = k by omega]
  · rw [if_neg e1]
    by_cases e2 : k = t
    · subst e2
      rw [if_pos rfl, if_pos (by omega), rv, rv, if_neg (by omega), if_pos (by omega), show m - 1 - k = j by omega]
    · rw [if_neg e2, h3 t ht]
      by_cases e3 : t < k ∨ m ≤ t + k
      · rw [rv, rv, if_pos e3, if_pos (by omega)]
      · rw [rv, rv, if_neg e3, if_neg (by omega)]
theorem RevRow.done {w : World} {g cap k j : Nat} {L : List Nat} (h : RevRow w g L.length cap L k) (hj : k + j + 1 = L.length) (hk : ¬ k < j) (hm : L.length ≤ cap) (hc : cap ≤ maxLen) : ByteRow w g L.length cap (bytes L.reverse) := by
  obtain ⟨cur, h1, h2, h3⟩ := h.row
  refine ⟨cur, h1, h2, hm, hc, by simp [bytes], ?_⟩
  apply List.ext_getElem?
  intro t
  by_cases ht : t < L.length
  · rw [List.getElem?_take, if_pos ht, bytes_get L.reverse t (by simpa using ht)]
    have := h3 t ht
    have e : rv L L.length k t = L.reverse[t]'(by simpa using ht) := by
      rw [List.getElem_reverse, rv]
      split
      · rw [List.getD_eq_getElem?_getD, List.getElem?_eq_getElem (by omega)]; rfl
      · have et : t = L.length - 1 - t := by omega
        rw [List.getD_eq_getElem?_getD, List.getElem?_eq_getElem ht]
        simp only [Option.getD_some]
        congr 1
    rw [e] at this
    simpa using this
  · rw [List.getElem?_take, if_neg ht, List.getElem?_eq_none (by simp [bytes]; omega)]

set_option maxHeartbeats 400000 in
theorem dec_any (x : Nat) (hx : x < 1000000000) (w : World) :
    Calls Yba.prog 8 #[.int .u32 x] w fun e w' => ∃ g cap ds, e = .returned (.slice (some ⟨g, 0, none⟩) ds.length cap) ∧ w.heap.size ≤ g ∧ ByteRow w' g ds.length cap (bytes ds) ∧ Num ds x ∧ Below w.heap.size w w' := by
  obtain ⟨i5, g1, g2, g3, g4⟩ := info_parts Yba.info5
  by_cases h0 : x = 0
  · subst h0
    go_enter Yba.func8, Yba.ntmps8
    go_wp2
    go_ret
    refine ⟨w.heap.size, 1, [0], rfl, Nat.le_refl _, ⟨_, heap_alloc_new _ _, rfl, Nat.le_refl _, by decide, rfl, rfl⟩, num_zero, (Below.refl _ _).alloc (Nat.le_refl _) _⟩
  · have hx0 : ((x : Int) == 0) = false := by simp; omega
    go_enter Yba.func8, Yba.ntmps8
    go_wp2
    go_loopw [0, 3] (fun xv v wr => ∃ (y : Nat) (L : List Nat), xv = .int .u32 y ∧ y ≤ x ∧ L.length ≤ 9 ∧ wr.ownsRow w.heap.size 5 1 v L.length (bytes L) ∧ DSt x y L ∧ Below w.heap.size w wr) (fun xv _ _ => (intOf xv).toNat)
    case atStart => exact ⟨x, [], rfl, Nat.le_refl _, by simp, World.ownsRow_nil _ _ _ _, dst_start x (by omega), Below.refl _ _⟩
    case round =>
      obtain ⟨y, L, rfl, hyx, hL9, hown, hd, hb⟩ := hrel
      have HD := hid hd
      have HB := hid hb
      have HO := hid hown
      have hsz := hb.size
      clear hd hb
      by_cases hy : 0 < y
      · have hlen := HD.out.len hy hx
        clear hown
        go_wp2_with (at_builtin; refine wpList_append_own _ (by rfl) (.tmp 12) (.tmp 17) 26 (by rfl) w.heap.size 5 i5 (.int .u8 0) 1 1 Yba.underlying26 g1 g2 g3 g4 rfl (by decide) _ L.length (bytes L) (by rfl) (by exact HO.out.alloc _) ⟨wr.heap.size, 0, none⟩ 1 1 [.int .u8 (48 + (y : Int) % 10)] (by rfl) (by rfl) (by exact World.news_of_block (heap_alloc_new _ _)) (by intro u hu; simp at hu; subst hu; rfl) (by unfold maxLen; omega) (by omega) (by simp; omega) ?_)
        intro v' w1 ho' hg' _
        have hb1 := (HB.out.alloc hsz (.cells #[.int .u8 (48 + (y : Int) % 10)] 5)).grown hg' (by simp; omega) (fun k e => (HO.out.lt k e).1)
        have HO1 : Hid (w1.ownsRow w.heap.size 5 1 v' (L ++ [y % 10]).length (bytes (L ++ [y % 10]))) := by
          show w1.ownsRow w.heap.size 5 1 v' (L ++ [y % 10]).length (bytes (L ++ [y % 10]))
          rw [bytes_snoc, List.length_append, List.length_singleton, show (((y % 10 : Nat)) : Int) = (y : Int) % 10 by omega]
          exact ho'
        have HB1 := hid hb1
        clear ho' hg' hb1
        go_wp2
        go_roundw
        case rel => exact ⟨y / 10, L ++ [y % 10], by go_num, by omega, by simp; omega, HO1.out, HD.out.step hy, HB1.out⟩
        case measure => simp [intOf]; omega
      · have hy0 : y = 0 := by omega
        subst hy0
        have hLp : 0 < L.length := by
          rcases Nat.eq_zero_or_pos L.length with h | h
          · have h2 := List.eq_nil_of_length_eq_zero h
            subst h2
            have := HD.out.eq
            simp [lval] at this
            omega
          · exact h
        obtain ⟨gb, cap, hv, hgb, hrow⟩ := ByteRow.of_own HO.out hLp
        obtain ⟨m, hm⟩ : ∃ m, L.length = m := ⟨_, rfl⟩
        have hnum := HD.out.num hLp hL9
        have hcap : L.length ≤ cap ∧ cap ≤ maxLen := by obtain ⟨cur, _, _, a, b, _⟩ := hrow; exact ⟨a, b⟩
        have hR := RevRow.start hrow
        rw [hm] at hR hLp hL9 hcap
        have HR := hid hR
        have HM := hid hm
        have HN := hid hnum
        have HCAP := hid hcap
        clear hown HO
        subst hv
        rw [hm]
        clear hm hR hnum hrow hcap
        go_wp2
        go_loopw [4, 5] (fun a b wq => ∃ k j : Nat, k + j + 1 = m ∧ a = .int .i64 k ∧ b = .int .i64 j ∧ RevRow wq gb m cap L k ∧ Below w.heap.size w wq) (fun a _ _ => m - (intOf a).toNat)
        case atStart => exact ⟨0, m - 1, by omega, rfl, by go_num, HR.out, HB.out⟩
        case round =>
          clear HR HB
          obtain ⟨k, j, hkj, rfl, rfl, hR, hb⟩ := hrel
          have HR := hid hR
          have HB := hid hb
          have hmc := HCAP.out.1
          have HKJ := hid hkj
          have h1 : k < m := by omega
          have h2 : j < m := by omega
          clear hkj hb
          by_cases hlt : k < j
          · obtain ⟨c0, f0⟩ := hR.cell h1
            obtain ⟨c1, f1⟩ := hR.cell h2
            clear hR
            go_wp2
            go_roundw
            case rel => exact ⟨k + 1, j - 1, by have := HKJ.out; omega, by go_num, by go_num, HR.out.step HKJ.out hlt hmc, (HB.out.setCell (by exact hgb) _).setCell (by exact hgb) _⟩
            case measure => simp [intOf]; omega
          · clear hR
            go_wp2
            go_ret
            have hm := HM.out
            subst hm
            have hr := HR.out.done HKJ.out hlt hmc HCAP.out.2
            refine ⟨gb, cap, L.reverse, ?_, hgb, ?_, HN.out, HB.out⟩
            · rw [List.length_reverse]; rfl
            · rw [List.length_reverse]; exact hr
end Go.Proofs.Ybulkamzw
