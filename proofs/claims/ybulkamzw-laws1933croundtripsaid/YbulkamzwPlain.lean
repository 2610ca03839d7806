import Derived.Test.YbulkamzwProg
import Derived.WalkKit
import Derived.WalkSpells
import Derived.WalkLawsBesides
namespace Go.Proofs.Ybulkamzw
open Go.RowKit

theorem hid {p : Prop} (h : p) : Hid p := h

/-- The number that digits spell, the greatest place first. -/
def val (l : List Nat) : Nat := l.foldl (fun a d => 10 * a + d) 0
theorem val_snoc (l : List Nat) (d : Nat) : val (l ++ [d]) = 10 * val l + d := by simp [val]
/-- .. the least place first. -/
def lval : List Nat → Nat
  | [] => 0
  | d :: r => d + 10 * lval r
theorem lval_snoc (l : List Nat) (d : Nat) : lval (l ++ [d]) = lval l + d * 10 ^ l.length := by
  induction l with
  | nil => simp [lval]
  | cons a r ih =>
    simp only [List.cons_append, lval, ih, List.length_cons, Nat.pow_succ]
    rw [Nat.mul_add, ← Nat.mul_assoc, Nat.mul_comm (10 ^ r.length) 10, ← Nat.mul_assoc, Nat.mul_comm d 10]
    omega
theorem val_reverse (l : List Nat) : val l.reverse = lval l := by
  induction l with
  | nil => rfl
  | cons a r ih => rw [List.reverse_cons, val_snoc, ih, lval]; omega
theorem val_lt (l : List Nat) (h : ∀ d ∈ l, d < 10) : lval l < 10 ^ l.length := by
  induction l with
  | nil => simp [lval]
  | cons a r ih =>
    have h1 := h a (by simp)
    have h2 := ih (fun d hd => h d (by simp [hd]))
    simp only [lval, List.length_cons, Nat.pow_succ]
    omega
theorem val_lt' (l : List Nat) (h : ∀ d ∈ l, d < 10) : val l < 10 ^ l.length := by
  have := val_lt l.reverse (fun d hd => h d (by simpa using hd))
  rw [← val_reverse, List.reverse_reverse, List.length_reverse] at this
  exact this

/-- The digits are those of x, with no leading zero. -/
structure Num (ds : List Nat) (x : Nat) : Prop where
  pos : 0 < ds.length
  len : ds.length ≤ 9
  dig : ∀ d ∈ ds, d < 10
  val : val ds = x
  lead : ds[0]? = some 0 → ds = [0]
theorem num_zero : Num [0] 0 := ⟨by simp, by simp, by simp, rfl, fun _ => rfl⟩

/-- After the first loop's rounds: the digits L have been taken off x0, x is left. -/
structure DSt (x0 x : Nat) (L : List Nat) : Prop where
  eq : x0 = x * 10 ^ L.length + lval L
  dig : ∀ d ∈ L, d < 10
  top : x = 0 → ∀ d, L.getLast? = some d → d ≠ 0
theorem dst_start (x : Nat) (hx : 0 < x) : DSt x x [] := ⟨by simp [lval], by simp, fun h => by omega⟩
theorem DSt.step {x0 x : Nat} {L : List Nat} (h : DSt x0 x L) (hx : 0 < x) : DSt x0 (x / 10) (L ++ [x % 10]) := by
  refine ⟨?_, ?_, ?_⟩
  · rw [h.eq, lval_snoc, List.length_append, List.length_singleton, Nat.pow_succ]
    have e := Nat.div_add_mod x 10
    generalize x / 10 = q at *
    generalize x % 10 = r at *
    subst e
    rw [Nat.add_mul, ← Nat.mul_assoc, Nat.mul_comm (q * 10 ^ L.length) 10, Nat.mul_assoc 10 q]
    omega
  · intro d hd
    simp only [List.mem_append, List.mem_singleton] at hd
    rcases hd with hd | hd
    · exact h.dig d hd
    · omega
  · intro hq d hd
    simp only [List.getLast?_append, List.getLast?_singleton, Option.some_or, Option.some.injEq] at hd
    omega
theorem DSt.len {x0 x : Nat} {L : List Nat} (h : DSt x0 x L) (hx : 0 < x) (h0 : x0 < 1000000000) : L.length < 9 := by
  rcases Nat.lt_or_ge L.length 9 with hl | hl
  · exact hl
  · have h1 := Nat.pow_le_pow_right (show 0 < 10 by decide) hl
    have h2 : 1 * 10 ^ L.length ≤ x * 10 ^ L.length := Nat.mul_le_mul_right _ hx
    have h3 := h.eq
    have h4 : (10 : Nat) ^ 9 = 1000000000 := by decide
    omega
theorem DSt.num {x0 : Nat} {L : List Nat} (h : DSt x0 0 L) (hp : 0 < L.length) (hl : L.length ≤ 9) : Num L.reverse x0 := by
  refine ⟨by simpa using hp, by simpa using hl, fun d hd => h.dig d (by simpa using hd), ?_, ?_⟩
  · rw [val_reverse]; have := h.eq; omega
  · intro e
    have e2 : L.getLast? = some 0 := by rw [← List.head?_reverse, List.head?_eq_getElem?]; exact e
    exact absurd rfl (h.top rfl 0 e2)

/-- Bytes of digits. -/
def bytes (ds : List Nat) : List Value := ds.map fun (d : Nat) => Value.int .u8 (48 + (d : Int))
theorem bytes_length (ds : List Nat) : (bytes ds).length = ds.length := by simp [bytes]
theorem bytes_snoc (ds : List Nat) (d : Nat) : bytes (ds ++ [d]) = bytes ds ++ [.int .u8 (48 + (d : Int))] := by simp [bytes]
theorem bytes_get (ds : List Nat) (i : Nat) (h : i < ds.length) : (bytes ds)[i]? = some (.int .u8 (48 + ((ds[i] : Nat) : Int))) := by simp [bytes, h]
theorem bytes_one (ds : List Nat) : ∀ u ∈ bytes ds, u.oneCell' = true := by
  intro u hu
  simp only [bytes, List.mem_map] at hu
  obtain ⟨d, _, rfl⟩ := hu
  rfl

/-- A row of bytes: block g, n of cap cells told. -/
def ByteRow (w : World) (g n cap : Nat) (xs : List Value) : Prop :=
  ∃ cur, w.heap[g]? = some (.cells cur 5 (0, 0)) ∧ cur.size = cap ∧ n ≤ cap ∧ cap ≤ maxLen ∧ xs.length = n ∧ cur.toList.take n = xs
theorem ByteRow.own {w : World} {g n cap base : Nat} {xs : List Value} (h : ByteRow w g n cap xs) (hb : base ≤ g) : w.ownsRow base 5 1 (.slice (some ⟨g, 0, none⟩) n cap) n xs := by
  obtain ⟨cur, h1, h2, h3, h4, h5, h6⟩ := h
  exact ⟨by simpa using h5, .inr ⟨g, cap, cur, rfl, hb, h1, h3, h4, by simpa using h2, by simpa using h6⟩⟩
theorem ByteRow.of_own {w : World} {n base : Nat} {v : Value} {xs : List Value} (h : w.ownsRow base 5 1 v n xs) (hn : 0 < n) : ∃ g cap, v = .slice (some ⟨g, 0, none⟩) n cap ∧ base ≤ g ∧ ByteRow w g n cap xs := by
  obtain ⟨h1, h2 | ⟨g, cap, cur, hv, hb, hh, hnc, hcm, hcs, ht⟩⟩ := h
  · omega
  · exact ⟨g, cap, hv, hb, cur, hh, by simpa using hcs, hnc, hcm, by simpa using h1, by simpa using ht⟩
theorem ByteRow.of_heap {w w' : World} {g n cap : Nat} {xs : List Value} (h : ByteRow w g n cap xs) (e : w'.heap[g]? = w.heap[g]?) : ByteRow w' g n cap xs := by
  obtain ⟨cur, h1, h2⟩ := h; exact ⟨cur, e.trans h1, h2⟩
theorem ByteRow.cell {w : World} {g n cap i : Nat} {xs : List Value} (h : ByteRow w g n cap xs) (hi : i < n) : w.cell? ⟨g, i, none⟩ = xs[i]? := by
  obtain ⟨cur, h1, h2, h3, h4, h5, h6⟩ := h
  rw [cell_of_row _ _ _ _ _ _ h1, ← h6, List.getElem?_take, if_pos hi]
  simp
theorem ByteRow.lt {w : World} {g n cap : Nat} {xs : List Value} (h : ByteRow w g n cap xs) : g < w.heap.size := by
  obtain ⟨cur, h1, _⟩ := h
  rcases Nat.lt_or_ge g w.heap.size with h' | h'
  · exact h'
  · rw [Array.getElem?_eq_none h'] at h1; cases h1
end Go.Proofs.Ybulkamzw
