import Derived.Test.YbulkamziDoneB
namespace Go.Proofs.Ybulkamzi
open Go.RowKit

/-- The entries as they came in: three cells each. -/
def Entries (w : World) (a : Option Addr) (L : Nat) (spot kn : Nat → Nat) (ct : Nat → Bool) : Prop :=
  ∀ i, i < L → ∃ b off, a = some ⟨b, off, none⟩ ∧ w.cell? ⟨b, off + i * 3, none⟩ = some (.int .u32 (spot i : Nat)) ∧ w.cell? ⟨b, off + i * 3 + 1, none⟩ = some (.int .u8 (kn i : Nat)) ∧
    w.cell? ⟨b, off + i * 3 + 2, none⟩ = some (.bool (ct i))

theorem pow_of (x : Nat) : Pow (2 ^ (x % 6 + 1)) := by
  have h : x % 6 < 6 := Nat.mod_lt _ (by omega)
  generalize x % 6 = r at h
  refine ⟨⟨r + 1, by omega, rfl⟩, ?_, ?_, ?_⟩
  all_goals (rcases r with _ | _ | _ | _ | _ | _ | r <;> first | omega | decide)

/-- Two of the resources, compared. -/
theorem eql_res (m : Nat) (rb : Nat → Nat) (w : World) (hinj : ∀ i j, i < m → j < m → rb i = rb j → i = j) (hres : ∀ j, j < m → ∃ c, w.heap[rb j]? = some (.cells c 101 (0, 0))) (i k : Nat) (hi : i < m) (hk : k < m) :
    (binOp .eql 61 (.pointer (some ⟨rb i, 0, none⟩)) (.pointer (some ⟨rb k, 0, none⟩))).run Yba.prog w = .ok (.bool (decide (i = k))) w := by
  obtain ⟨j101, hj, hjs⟩ := Yba.infoSome Yba.size101
  by_cases e : i = k
  · subst e; rw [run_eql_ptr_same (P := Yba.prog) w _ Yba.underlying61 hj]; simp
  · obtain ⟨ca, ha⟩ := hres i hi
    obtain ⟨cb, hb⟩ := hres k hk
    rw [run_eql_ptr_other (P := Yba.prog) w Yba.underlying61 hj (by omega) (fun e' => e (hinj i k hi hk (by simpa using e'))) ha hb]
    simp [e]

/-- The way from a resource's start to its place. -/
theorem way {n f j i : Nat} {spot : Nat → Nat} {R : Nat → Option Nat} (hf : f < n) (hg : Good n spot f R) (hj : j < n) (hR : R j = some i) :
    ∃ a t, a ≤ t ∧ t < n ∧ P n f t = j ∧ P n f a = spot i % n ∧ ∀ s, a ≤ s → s < t → R (P n f s) ≠ none := by
  obtain ⟨t, ht, rfl⟩ := P_surj hf hj
  obtain ⟨a, h1, h2, h3⟩ := hg t ht i hR
  exact ⟨a, t, h1, ht, rfl, h2, h3⟩
end Go.Proofs.Ybulkamzi
