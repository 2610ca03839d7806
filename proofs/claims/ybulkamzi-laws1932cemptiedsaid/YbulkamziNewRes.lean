import Derived.Test.YbulkamziEmptied
namespace Go.Proofs.Ybulkamzi
open Go.RowKit

set_option maxHeartbeats 400000 in
theorem new_top (s : ByteArray) (w : World) :
    Calls Yba.prog 21 #[.pointer none, .string s] w fun e w' => e = .returned (.pointer (some ⟨w.heap.size, 0, none⟩)) ∧
      w' = w.alloc (.cells #[.int .i32 0, .int .u32 0, .string s, .pointer none, .pointer none, .int .u32 0, .int .u16 0, .int .u8 0, .int .u8 0] 101) := by
  go_enter Yba.func21, Yba.ntmps21
  go_wp2
  go_ret
  exact ⟨rfl, rfl⟩

set_option maxRecDepth 100000 in
set_option maxHeartbeats 1000000 in
theorem new_nested (pb : Nat) (s : ByteArray) (w : World) (he : w.cell? ⟨pb, 4, none⟩ = some (.pointer none)) :
    Calls Yba.prog 21 #[.pointer (some ⟨pb, 0, none⟩), .string s] w fun e w' => e = .returned (.pointer (some ⟨w.heap.size, 0, none⟩)) ∧
      w' = (w.alloc (.cells #[.int .i32 0, .int .u32 0, .string s, .pointer none, .pointer (some ⟨w.heap.size, 9, none⟩), .int .u32 0, .int .u16 0, .int .u8 0, .int .u8 0,
        .pointer none, .pointer none, .pointer none, .int .i32 0, .int .i32 0, .pointer none, .pointer (some ⟨pb, 0, none⟩), .pointer (some ⟨pb, 0, none⟩), .map none] 237)).drew := by
  have hpb := block_lt_of_cell he
  have ha : ∀ o, (w.alloc o).cell? ⟨pb, 4, none⟩ = some (.pointer none) := fun o => by rw [World.cell?_alloc_past _ _ _ hpb]; exact he
  go_enter Yba.func21, Yba.ntmps21
  go_wp2_with (go_at_call 42; refine (top_self pb _ (ha _)).mono ?_; rintro e w' ⟨rfl, rfl⟩)
  go_region_with (go_at_call 43; refine (ext_store w.heap.size 4 w.heap.size 9 (.pointer none) (.pointer none) _ ?_ ?_ ?_).mono ?_; (simp); (simp); (simp); rintro e w' ⟨rfl, rfl⟩)
  all_goals
    go_wp2
    go_ret
    exact ⟨rfl, rfl⟩
end Go.Proofs.Ybulkamzi
