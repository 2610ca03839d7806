import Derived.Test.YbulkamzwDec
namespace Go.Proofs.Ybulkamzw
open Go.RowKit

/-- The bytes B, len of them, begin with the digits ds, and no digit follows. -/
structure Pre (ds : List Nat) (x len : Nat) (B : Nat → Int) : Prop where
  num : Num ds x
  le : ds.length ≤ len
  dig : ∀ i (h : i < ds.length), B i = 48 + ((ds[i] : Nat) : Int)
  sep : ds.length < len → B ds.length = 120 ∨ B ds.length = 46 ∨ B ds.length = 45 ∨ B ds.length = 32

theorem take_val (ds : List Nat) (k : Nat) (h : k < ds.length) : val (ds.take (k + 1)) = 10 * val (ds.take k) + ds[k] := by
  rw [List.take_succ_eq_append_getElem h, val_snoc]
theorem take_bound {ds : List Nat} {x : Nat} (h : Num ds x) (k : Nat) (hk : k ≤ ds.length) : val (ds.take k) < 1000000000 := by
  have h1 := val_lt' (ds.take k) (fun d hd => h.dig d (List.mem_of_mem_take hd))
  rw [List.length_take, Nat.min_eq_left hk] at h1
  have h2 := Nat.pow_le_pow_right (show 0 < 10 by decide) (Nat.le_trans hk h.len)
  have h4 : (10 : Nat) ^ 9 = 1000000000 := by decide
  omega

set_option maxHeartbeats 400000 in
theorem np_bytes (g len cap : Nat) (B : Nat → Int) (ds : List Nat) (x : Nat) (w : World) (hl : len ≤ 4000) (hc : ∀ i, i < len → w.cell? ⟨g, i, none⟩ = some (.int .u8 (B i))) (hp : Pre ds x len B) :
    Calls Yba.prog 7 #[.slice (some ⟨g, 0, none⟩) len cap] w fun e w' => e = .returned (.tuple #[.int .u32 x, .int .i64 ds.length]) ∧ w' = w := by
  have hpos := hp.num.pos
  have hle := hp.le
  have h9 := hp.num.len
  have c0 := hc 0 (by omega)
  rw [hp.dig 0 hpos] at c0
  by_cases hz : ds[0] = 0
  · have e0 : ds = [0] := hp.num.lead (by rw [List.getElem?_eq_getElem hpos, hz])
    have hx : x = 0 := by rw [← hp.num.val, e0]; rfl
    rw [hz] at c0
    subst hx
    subst e0
    clear hc hp
    go_enter Yba.func7, Yba.ntmps7
    go_wp2
    go_ret2
    exact ⟨rfl, rfl⟩
  · have hd0 := hp.num.dig ds[0] (List.getElem_mem hpos)
    obtain ⟨d0, hd⟩ : ∃ d0, ds[0] = d0 := ⟨_, rfl⟩
    rw [hd] at c0 hz hd0
    have ez : ((48 : Int) + (d0 : Int) == 48) = false := by simp; omega
    obtain ⟨m, hm⟩ : ∃ m, ds.length = m := ⟨_, rfl⟩
    have HP := hid hp
    have HC := hid hc
    have HM := hid hm
    rw [hm] at hpos hle h9
    clear hp hc hd hd0 hz hm
    rw [HM.out]
    go_enter Yba.func7, Yba.ntmps7
    go_wp2
    clear c0 ez
    go_loop [2, 3] (fun v i => ∃ k : Nat, k ≤ m ∧ i = .int .i64 k ∧ v = .int .u32 (val (ds.take k) : Int)) (fun _ i => m - (intOf i).toNat)
    case atStart => exact ⟨0, Nat.zero_le _, rfl, rfl⟩
    case round =>
      obtain ⟨k, hk, rfl, rfl⟩ := hrel
      have hb := take_bound HP.out.num k (by rw [HM.out]; exact hk)
      by_cases hlt : k < m
      · have hkd : k < ds.length := by rw [HM.out]; exact hlt
        have ck := HC.out k (by omega)
        rw [HP.out.dig k hkd] at ck
        have hdk := HP.out.num.dig ds[k] (List.getElem_mem hkd)
        have hb1 := take_bound HP.out.num (k + 1) hkd
        have hv := take_val ds k hkd
        rw [hv] at hb1
        obtain ⟨d, hd⟩ : ∃ d, ds[k] = d := ⟨_, rfl⟩
        rw [hd] at ck hdk hv hb1
        obtain ⟨v, hvv⟩ : ∃ v, val (ds.take k) = v := ⟨_, rfl⟩
        rw [hvv] at hb hv hb1 ⊢
        have HV := hid hv
        clear hv hd hvv hkd
        go_wp2
        go_round
        case rel => exact ⟨k + 1, by omega, by go_num, by rw [HV.out]; congr 1; omega⟩
        case measure => simp [intOf]; omega
      · have hkm : m = k := by omega
        subst hkm
        have hvx : val (ds.take m) = x := by rw [← HM.out, List.take_length]; exact HP.out.num.val
        rw [hvx]
        rw [hvx] at hb
        clear hvx
        by_cases h1 : m < len
        · by_cases h2 : m < 9
          · have cm := HC.out m h1
            have hs := HP.out.sep (by rw [HM.out]; exact h1)
            rw [HM.out] at hs
            rcases hs with hs | hs | hs | hs
            all_goals
              rw [hs] at cm
              clear hs
              go_wp2
              go_ret2
              exact ⟨rfl, rfl⟩
          · go_wp2
            go_ret2
            exact ⟨rfl, rfl⟩
        · go_wp2
          go_ret2
          exact ⟨rfl, rfl⟩
end Go.Proofs.Ybulkamzw
