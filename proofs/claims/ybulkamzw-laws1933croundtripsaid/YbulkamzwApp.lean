import Derived.Test.YbulkamzwPrefixS
import Derived.Lib.AppendStr
import Derived.Laws.BytesString
namespace Go.Proofs.Ybulkamzw
open Go.RowKit

/-- What an append leaves: the new row; the old slice still reads as it did; all else is as it was. -/
structure App (w w' : World) (g n cap : Nat) (xs news : List Value) (g' cap' : Nat) : Prop where
  new : ByteRow w' g' (n + news.length) cap' (xs ++ news)
  old : ∀ m ys, m ≤ n → ByteRow w g m cap ys → ByteRow w' g m cap ys
  frame : ∀ b, b < w.heap.size → b ≠ g → w'.heap[b]? = w.heap[b]?
  os : w'.os = w.os
  tape : w'.tape = w.tape
  output : w'.output = w.output
  size : w.heap.size ≤ w'.heap.size
  base : g' = g ∨ w.heap.size ≤ g'

theorem App.below {w w' : World} {g n cap : Nat} {xs news : List Value} {g' cap' N : Nat} (h : App w w' g n cap xs news g' cap') (hN : N ≤ g) (hw : N ≤ w.heap.size) : Below N w w' :=
  ⟨h.os, h.tape, h.output, h.size, fun k hk => h.frame k (by omega) (by omega)⟩

theorem app_room {w : World} {g n cap : Nat} {cur : Array Value} {xs news : List Value} (hg : w.heap[g]? = some (.cells cur 5 (0, 0))) (hs : cur.size = cap) (hx : xs.length = n) (ht : cur.toList.take n = xs) (hcm : cap ≤ maxLen) (hroom : n + news.length ≤ cap) :
    App w (w.setRow g (cur.toList.take n ++ news ++ cur.toList.drop (n + news.length)).toArray) g n cap xs news g cap := by
  have e := setRow_heap w g cur (cur.toList.take n ++ news ++ cur.toList.drop (n + news.length)).toArray 5 (0, 0) hg
  have hl : (cur.toList.take n ++ news ++ cur.toList.drop (n + news.length)).toArray.size = cap := by simp; omega
  refine ⟨⟨_, e, hl, hroom, hcm, by simp [hx], ?_⟩, ?_, fun b _ hb => setRow_other w g b _ hb, rfl, rfl, rfl, by simp, .inl rfl⟩
  · rw [ht, List.take_append_of_le_length (by simp [hx]), List.take_of_length_le (by simp [hx])]
  · intro m ys hm hr
    obtain ⟨cur2, r1, r2, r3, r4, r5, r6⟩ := hr
    rw [hg] at r1
    simp only [Option.some.injEq, Obj.cells.injEq, and_true] at r1
    subst r1
    refine ⟨_, e, hl, r3, r4, r5, ?_⟩
    have hcl : cur.toList.length = cap := by simpa using hs
    rw [List.append_assoc, List.take_append_of_le_length (by rw [List.length_take]; omega), List.take_take, Nat.min_eq_left hm]
    exact r6

theorem app_grow {w : World} {g n cap : Nat} {xs news : List Value} (G : Nat) (hG : n + news.length ≤ G) (hGm : G ≤ maxLen) (hx : xs.length = n) :
    App w (w.drew.alloc (.cells (xs.toArray ++ news.toArray ++ Builtin.zeroCells (Value.int .u8 0).cells (G - (n + news.length))) 5)) g n cap xs news w.heap.size G := by
  refine ⟨⟨_, heap_alloc_new w.drew _, ?_, hG, hGm, by simp [hx], ?_⟩, ?_, ?_, rfl, rfl, rfl, by simp, .inr (Nat.le_refl _)⟩
  · simp [size_zeroCells, Value.cells, hx]; omega
  · rw [Array.toList_append, Array.toList_append]
    show List.take (n + news.length) ((xs ++ news) ++ _) = _
    rw [List.take_append_of_le_length (by simp [hx]), List.take_of_length_le (by simp [hx])]
  · intro m ys _ hr
    refine hr.of_heap ?_
    exact Below.heap_alloc w.drew _ g hr.lt
  · intro b hb _
    exact Below.heap_alloc w.drew _ b hb

/-- 'append(row, x)', x one byte laid at ad. -/
theorem wpList_app_byte (w : World) {ops : Array Oper} {rest : List Oper} {o : Oper} {a : Act} {Q : Exit → Act → World → Prop} (hgd : o.guard = none) (s x : Operand)
    (ho : o.op = .call { callee := .builtin .append, args := #[s, x], argTypes := #[26, 26] }) (g n cap : Nat) (xs : List Value) (hs : a.eval s = .slice (some ⟨g, 0, none⟩) n cap) (hr : ByteRow w g n cap xs) (hn : n ≤ 4000)
    (ad : Addr) (u : Int) (hx : a.eval x = .slice (some ad) 1 1) (hc : w.cell? ad = some (.int .u8 u))
    (h : ∀ g' cap' w', App w w' g n cap xs [.int .u8 u] g' cap' → wpList Yba.prog ops Q rest (a.put o.dst (.slice (some ⟨g', 0, none⟩) (n + 1) cap')) w') : wpList Yba.prog ops Q (o :: rest) a w := by
  obtain ⟨i, g1, g2, g3, g4⟩ := info_parts Yba.info5
  obtain ⟨cur, r1, r2, r3, r4, r5, r6⟩ := hr
  have hnews : ∀ j v, ([.int .u8 u] : List Value)[j]? = some v → w.cell? (ad.add j) = some v := by
    intro j v hv
    match j, hv with
    | 0, hv => simp at hv; subst hv; simpa [Addr.add] using hc
  have h1 : ∀ v ∈ ([.int .u8 u] : List Value), v.oneCell' = true := by intro v hv; simp at hv; subst hv; rfl
  refine wpList_plain hgd fun K hK => ?_
  by_cases hroom : n + 1 ≤ cap
  · have hrun := run_append_room (P := Yba.prog) w 26 o.type 5 i Yba.underlying26 g1 g n cap cur r1 ad 1 1 [.int .u8 u] (by rw [g3]; rfl) hnews h1 hroom (by rw [g3]; simp; omega)
    rw [g3, Nat.mul_one] at hrun
    have ha := app_room (news := [.int .u8 u]) r1 r2 r5 r6 r4 (by simpa using hroom)
    unfold Oper.wp
    simp only [execOp, ho, resolve, invoke, builtin, Sem.run_bind, Sem.run_pure, Result.andThen_ok, List.map_toArray, List.map_cons, List.map_nil, hs, hx, hrun]
    exact hK _ _ (h g cap _ ha)
  · have hm63 : n + 1 ≤ maxLen := by unfold maxLen; omega
    have hrun := run_append_grow (P := Yba.prog) w 26 o.type 5 i (.int .u8 0) Yba.underlying26 g1 g2 ⟨g, 0, none⟩ n cap xs (by rw [g3]; omega) (fun j v hv => by
      have hj : j < n := by
        rcases Nat.lt_or_ge j n with hj | hj
        · exact hj
        · rw [List.getElem?_eq_none (by omega)] at hv; cases hv
      have e : (⟨g, 0, none⟩ : Addr).add j = ⟨g, j, none⟩ := by unfold Addr.add; split <;> simp_all
      rw [e, ByteRow.cell ⟨cur, r1, r2, r3, r4, r5, r6⟩ hj]; exact hv) ad 1 1 [.int .u8 u] (by rw [g3]; rfl) hnews (by omega) (by omega) (growslice_fits (by omega) (by rw [g4]; omega))
    have ha := app_grow (w := w) (g := g) (cap := cap) (xs := xs) (n := n) (news := [.int .u8 u]) (grownCap w (n + 1) cap 5) (grownCap_ge w (n + 1) cap 5) (grownCap_le_maxLen w (n + 1) cap 5 hm63) r5
    unfold Oper.wp
    simp only [execOp, ho, resolve, invoke, builtin, Sem.run_bind, Sem.run_pure, Result.andThen_ok, List.map_toArray, List.map_cons, List.map_nil, hs, hx, hrun]
    exact hK _ _ (h _ _ _ ha)

/-- 'append(row, str...)'. -/
theorem wpList_app_str (w : World) {ops : Array Oper} {rest : List Oper} {o : Oper} {a : Act} {Q : Exit → Act → World → Prop} (hgd : o.guard = none) (s x : Operand)
    (ho : o.op = .call { callee := .builtin .append, args := #[s, x], argTypes := #[26, 9] }) (g n cap : Nat) (xs : List Value) (hs : a.eval s = .slice (some ⟨g, 0, none⟩) n cap) (hr : ByteRow w g n cap xs) (hn : n ≤ 2000)
    (str : ByteArray) (hl : str.size ≤ 2000) (hx : a.eval x = .string str)
    (h : ∀ g' cap' w', App w w' g n cap xs (Lib.strCells str) g' cap' → wpList Yba.prog ops Q rest (a.put o.dst (.slice (some ⟨g', 0, none⟩) (n + str.size) cap')) w') : wpList Yba.prog ops Q (o :: rest) a w := by
  obtain ⟨i, g1, g2, g3, g4⟩ := info_parts Yba.info5
  obtain ⟨cur, r1, r2, r3, r4, r5, r6⟩ := hr
  have el := Lib.strCells_length str
  refine wpList_plain hgd fun K hK => ?_
  by_cases hroom : n + str.size ≤ cap
  · have hrun := Lib.run_append_room_string (P := Yba.prog) w 26 9 o.type 5 i Yba.underlying26 Yba.underlying9 g1 g3 g n cap cur r1 str hroom (by omega)
    have ha := app_room (news := Lib.strCells str) r1 r2 r5 r6 r4 (by omega)
    rw [el] at ha
    unfold Oper.wp
    simp only [execOp, ho, resolve, invoke, builtin, Sem.run_bind, Sem.run_pure, Result.andThen_ok, List.map_toArray, List.map_cons, List.map_nil, hs, hx, hrun]
    exact hK _ _ (h g cap _ ha)
  · have hm63 : n + str.size ≤ maxLen := by unfold maxLen; omega
    have hrun := Lib.run_append_grow_string (P := Yba.prog) w 26 9 o.type 5 i (.int .u8 0) Yba.underlying26 Yba.underlying9 g1 g2 ⟨g, 0, none⟩ n cap xs (by rw [g3]; omega) (fun j v hv => by
      have hj : j < n := by
        rcases Nat.lt_or_ge j n with hj | hj
        · exact hj
        · rw [List.getElem?_eq_none (by omega)] at hv; cases hv
      have e : (⟨g, 0, none⟩ : Addr).add j = ⟨g, j, none⟩ := by unfold Addr.add; split <;> simp_all
      rw [e, ByteRow.cell ⟨cur, r1, r2, r3, r4, r5, r6⟩ hj]; exact hv) str (by omega) (by omega) (growslice_fits (by omega) (by rw [g4]; omega))
    have ha := app_grow (w := w) (g := g) (cap := cap) (xs := xs) (n := n) (news := Lib.strCells str) (grownCap w (n + str.size) cap 5) (by rw [el]; exact grownCap_ge w (n + str.size) cap 5) (grownCap_le_maxLen w (n + str.size) cap 5 hm63) r5
    rw [el] at ha
    unfold Oper.wp
    simp only [execOp, ho, resolve, invoke, builtin, Sem.run_bind, Sem.run_pure, Result.andThen_ok, List.map_toArray, List.map_cons, List.map_nil, hs, hx, hrun]
    exact hK _ _ (h _ _ _ ha)

/-- 'string(row)'. -/
def strOf (ns : List Int) : ByteArray := ns.foldl (fun r n => r.push (UInt8.ofNat n.toNat)) ByteArray.empty
theorem foldl_push (ns : List Int) (r : ByteArray) : (ns.foldl (fun r n => r.push (UInt8.ofNat n.toNat)) r).data.toList = r.data.toList ++ ns.map (fun n => UInt8.ofNat n.toNat) := by
  induction ns generalizing r with
  | nil => simp
  | cons a t ih => simp [ih]
theorem strOf_list (ns : List Int) : (strOf ns).data.toList = ns.map (fun n => UInt8.ofNat n.toNat) := by
  rw [strOf, foldl_push]; rfl
theorem strOf_size (ns : List Int) : (strOf ns).size = ns.length := by
  have := congrArg List.length (strOf_list ns)
  simpa using this
theorem strOf_get (ns : List Int) (i : Nat) (h : i < (strOf ns).size) (hb : ∀ n ∈ ns, 0 ≤ n ∧ n < 256) : (((strOf ns)[i]).toNat : Int) = ns.getD i 0 := by
  have hl : i < ns.length := by rw [strOf_size] at h; exact h
  have e : (strOf ns)[i] = UInt8.ofNat (ns[i]).toNat := by
    have h2 : (strOf ns).data.toList[i]? = some (UInt8.ofNat (ns[i]).toNat) := by rw [strOf_list]; simp [hl]
    have h3 : (strOf ns).data[i]? = some (UInt8.ofNat (ns[i]).toNat) := by simpa using h2
    exact (Array.getElem?_eq_some_iff.1 h3).2
  have hbb := hb ns[i] (List.getElem_mem hl)
  rw [e, List.getD_eq_getElem?_getD, List.getElem?_eq_getElem hl, Option.getD_some, UInt8.toNat_ofNat']
  omega
theorem run_string_row {w : World} {g n cap : Nat} {ns : List Int} (h : ByteRow w g n cap (ns.map (Value.int .u8))) :
    (convert 26 9 (.slice (some ⟨g, 0, none⟩) n cap)).run Yba.prog w = .ok (.string (strOf ns)) w := by
  rw [run_convert_bytes_string w 26 9 5 _ n cap Yba.underlying26 Yba.underlying5 Yba.underlying9]
  have hl : (ns.map (Value.int .u8)).length = n := by obtain ⟨_, _, _, _, _, h5, _⟩ := h; exact h5
  have hlc := run_loadCells_list (P := Yba.prog) w ⟨g, 0, none⟩ (ns.map (Value.int .u8)) (fun j v hv => by
    have hj : j < n := by
      rcases Nat.lt_or_ge j n with hj | hj
      · exact hj
      · rw [List.getElem?_eq_none (by omega)] at hv; cases hv
    have e : (⟨g, 0, none⟩ : Addr).add j = ⟨g, j, none⟩ := by unfold Addr.add; split <;> simp_all
    rw [e, h.cell hj]; exact hv)
  rw [hl] at hlc
  exact run_bytesToString w ⟨g, 0, none⟩ n cap ns hlc
end Go.Proofs.Ybulkamzw
