import Derived.Test.YbulkanakAt
namespace Go.Proofs.Ybulkanak
open Go.RowKit
set_option linter.unusedVariables false

/-- t is the last period that starts no later than d. -/
def Latest (n : Nat) (cum : Nat → Nat) (d t : Nat) : Prop := t < n ∧ cum t ≤ d ∧ ∀ k, t < k → k < n → d < cum k

theorem found_pick {n : Nat} {cum : Nat → Nat} {d t i : Nat} {f : Bool} (hs : ∀ i j, i < j → j < n → cum i < cum j) (ht : Latest n cum d t) (hi : Found n cum d i) (hf : f = decide (i < n ∧ cum i = d)) :
    (f = true ∧ i = t) ∨ (f = false ∧ i = t + 1) := by
  obtain ⟨h1, h2, h3⟩ := ht
  obtain ⟨k1, k2, k3⟩ := hi
  cases f
  · have hf' : ¬ (i < n ∧ cum i = d) := by simpa using hf.symm
    refine .inr ⟨rfl, ?_⟩
    rcases Nat.lt_trichotomy i (t + 1) with h | h | h
    · exfalso
      have a := k3 t (by omega) h1
      have b := k3 i (by omega) (by omega)
      by_cases e : i = t
      · subst e; exact hf' ⟨by omega, by omega⟩
      · have := hs i t (by omega) h1; omega
    · exact h
    · exfalso
      have := k2 (t + 1) (by omega)
      have := h3 (t + 1) (by omega) (by omega)
      omega
  · have hf' : i < n ∧ cum i = d := by simpa using hf.symm
    refine .inl ⟨rfl, ?_⟩
    rcases Nat.lt_trichotomy i t with h | h | h
    · exfalso; have := hs i t h h1; omega
    · exact h
    · exfalso; have := h3 i h hf'.1; omega

set_option maxHeartbeats 4000000 in
set_option maxRecDepth 100000 in
/-- (*Set).At. -/
theorem at_walk (bs bp n d t : Nat) (pb cum : Nat → Nat) (hn : n ≤ 1025) (w : World) (hbs : bs < w.heap.size) (hc : w.cell? ⟨bs, 8, none⟩ = some (.slice (some ⟨bp, 0, none⟩) n n)) (hp : Periods w bp n pb cum)
    (hs : ∀ i j, i < j → j < n → cum i < cum j) (ht : Latest n cum d t) :
    Calls Yba.prog 7 #[.pointer (some ⟨bs, 0, none⟩), timeV d] w fun e w' => e = .returned (.pointer (some ⟨pb t, 0, none⟩)) ∧ Below w.heap.size w w' := by
  have HS := hid hs
  have HP := hid hp
  have HT := hid ht
  have htn : t < n := ht.1
  clear hs hp ht
  have SE : Hid (∀ wr : World, Below w.heap.size w wr → Calls Yba.prog 12 #[.slice (some ⟨bp, 0, none⟩) n n, timeV d, .func (.func 13) #[] #[]] wr
      fun e w' => ∃ (i : Int) (f : Bool), e = .returned (.tuple #[.int .i64 i, .bool f]) ∧ Hid ((f = true ∧ i = t) ∨ (f = false ∧ i = (t : Int) + 1)) ∧ Below w.heap.size w w') := fun wr hb => by
    refine (search_walk bp n d pb cum hn wr (HP.out.below hb (Nat.le_refl _)) ?_).mono ?_
    · intro i j hij hj
      rcases Nat.eq_or_lt_of_le hij with rfl | h
      · exact Nat.le_refl _
      · exact Nat.le_of_lt (HS.out i j h hj)
    · rintro e w' ⟨i, f, rfl, hfd, hf, hb2⟩
      refine ⟨_, _, rfl, ?_, hb.trans (hb2.mono hb.size)⟩
      rcases found_pick HS.out HT.out hfd hf with ⟨rfl, rfl⟩ | ⟨rfl, rfl⟩
      · exact .inl ⟨rfl, rfl⟩
      · exact .inr ⟨rfl, by simp⟩
  have ROW : Hid (∀ wr : World, Below w.heap.size w wr → wr.cell? ⟨bs, 8, none⟩ = some (.slice (some ⟨bp, 0, none⟩) n n) ∧ wr.cell? ⟨bp, t, none⟩ = some (.pointer (some ⟨pb t, 0, none⟩))) := fun wr hb =>
    ⟨(hb.cell (p := ⟨bs, 8, none⟩) hbs).trans hc, (HP.out.below hb (Nat.le_refl _)).row t htn⟩
  have ac : ∀ o, (w.alloc o).cell? ⟨bs, 8, none⟩ = some (.slice (some ⟨bp, 0, none⟩) n n) := fun o => (ROW.out _ ((Below.refl _ w).alloc (Nat.le_refl _) o)).1
  clear hc HP HS HT
  unfold timeV at SE ⊢
  obtain ⟨d1, e3⟩ : ∃ c1 : Int, c1 = ((d % 1000000000 : Nat) : Int) := ⟨_, rfl⟩
  obtain ⟨d2, e4⟩ : ∃ c1 : Int, c1 = ((d / 1000000000 : Nat) : Int) := ⟨_, rfl⟩
  rw [← e3, ← e4] at SE ⊢
  clear e3 e4
  go_enter Yba.func7, Yba.ntmps7
  go_wp2_with fail
  go_region_with (go_at_call 12; refine (SE.out _ (((Below.refl _ w).alloc (Nat.le_refl _) _).drew)).mono ?_; rintro e w2 ⟨i, f, rfl, hif, hw⟩)
  all_goals obtain ⟨q1, q2⟩ := ROW.out _ hw
  all_goals rcases hif.out with ⟨rfl, rfl⟩ | ⟨rfl, rfl⟩
  all_goals
    go_wp2
    go_ret
    exact ⟨rfl, hw⟩
end Go.Proofs.Ybulkanak
