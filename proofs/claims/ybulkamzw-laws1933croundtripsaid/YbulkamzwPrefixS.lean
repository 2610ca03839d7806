import Derived.Test.YbulkamzwPrefix
namespace Go.Proofs.Ybulkamzw
open Go.RowKit

set_option maxHeartbeats 400000 in
theorem np_string (str : ByteArray) (B : Nat → Int) (ds : List Nat) (x : Nat) (w : World) (hl : str.size ≤ 4000) (hc : ∀ i (h : i < str.size), (str[i].toNat : Int) = B i) (hp : Pre ds x str.size B) :
    Calls Yba.prog 6 #[.string str] w fun e w' => e = .returned (.tuple #[.int .u32 x, .int .i64 ds.length]) ∧ w' = w := by
  have hpos := hp.num.pos
  have hle := hp.le
  have h9 := hp.num.len
  have h0s : 0 < str.size := by omega
  have c0 := hc 0 h0s
  rw [hp.dig 0 hpos] at c0
  by_cases hz : ds[0] = 0
  · have e0 : ds = [0] := hp.num.lead (by rw [List.getElem?_eq_getElem hpos, hz])
    have hx : x = 0 := by rw [← hp.num.val, e0]; rfl
    rw [hz] at c0
    subst hx
    subst e0
    clear hc hp
    go_enter Yba.func6, Yba.ntmps6
    go_wp2
    go_ret2
    exact ⟨rfl, rfl⟩
  · have hd0 := hp.num.dig ds[0] (List.getElem_mem hpos)
    obtain ⟨d0, hd⟩ : ∃ d0, ds[0] = d0 := ⟨_, rfl⟩
    rw [hd] at c0 hz hd0
    have ez : ((48 : Int) + (d0 : Int) == 48) = false := by simp; omega
    obtain ⟨m, hm⟩ : ∃ m, ds.length = m := ⟨_, rfl⟩
    have HP := hid hp
    have HC := hid hc
    have HM := hid hm
    rw [hm] at hpos hle h9
    clear hp hc hd hd0 hz hm
    rw [HM.out]
    go_enter Yba.func6, Yba.ntmps6
    go_wp2
    clear c0 ez
    go_loop [2, 3] (fun v i => ∃ k : Nat, k ≤ m ∧ i = .int .i64 k ∧ v = .int .u32 (val (ds.take k) : Int)) (fun _ i => m - (intOf i).toNat)
    case atStart => exact ⟨0, Nat.zero_le _, rfl, rfl⟩
    case round =>
      obtain ⟨k, hk, rfl, rfl⟩ := hrel
      have hb := take_bound HP.out.num k (by rw [HM.out]; exact hk)
      by_cases hlt : k < m
      · have hkd : k < ds.length := by rw [HM.out]; exact hlt
        have hks : k < str.size := by omega
        have ck := HC.out k hks
        rw [HP.out.dig k hkd] at ck
        have hdk := HP.out.num.dig ds[k] (List.getElem_mem hkd)
        have hb1 := take_bound HP.out.num (k + 1) hkd
        have hv := take_val ds k hkd
        rw [hv] at hb1
        obtain ⟨d, hd⟩ : ∃ d, ds[k] = d := ⟨_, rfl⟩
        rw [hd] at ck hdk hv hb1
        obtain ⟨v, hvv⟩ : ∃ v, val (ds.take k) = v := ⟨_, rfl⟩
        rw [hvv] at hb hv hb1 ⊢
        have HV := hid hv
        clear hv hd hvv hkd
        go_wp2
        go_round
        case rel => exact ⟨k + 1, by omega, by go_num, by rw [HV.out]; congr 1; omega⟩
        case measure => simp [intOf]; omega
      · have hkm : m = k := by omega
        subst hkm
        have hvx : val (ds.take m) = x := by rw [← HM.out, List.take_length]; exact HP.out.num.val
        rw [hvx]
        rw [hvx] at hb
        clear hvx
        by_cases h1 : m < str.size
        · by_cases h2 : m < 9
          · have cm := HC.out m h1
            have hs := HP.out.sep (by rw [HM.out]; exact h1)
            rw [HM.out] at hs
            rcases hs with hs | hs | hs | hs
            all_goals
              rw [hs] at cm
              clear hs
              go_wp2
              go_ret2
              exact ⟨rfl, rfl⟩
          · go_wp2
            go_ret2
            exact ⟨rfl, rfl⟩
        · go_wp2
          go_ret2
          exact ⟨rfl, rfl⟩

set_option maxHeartbeats 400000 in
theorem numeral_any (str : ByteArray) (B : Nat → Int) (ds : List Nat) (x : Nat) (w : World) (hl : str.size ≤ 4000) (hc : ∀ i (h : i < str.size), (str[i].toNat : Int) = B i) (hp : Pre ds x str.size B) (he : ds.length = str.size) :
    Calls Yba.prog 9 #[.string str] w fun e w' => e = .returned (.tuple #[.int .u32 x, .bool true]) ∧ w' = w := by
  have hpos := hp.num.pos
  have HC := np_string str B ds x w hl hc hp
  rw [he] at HC hpos
  have HCC := hid HC
  clear HC hc hp
  go_enter Yba.func9, Yba.ntmps9
  go_wp2_with (go_at_call 6; refine HCC.out.mono ?_; rintro e w' ⟨rfl, rfl⟩)
  go_ret2
  exact ⟨rfl, rfl⟩
end Go.Proofs.Ybulkamzw
