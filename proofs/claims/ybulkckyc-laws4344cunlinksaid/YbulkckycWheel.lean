import Derived.Test.YbulkckycWidths
import Derived.Laws.EntriesVeiled
namespace Go.Proofs.Ybulkckyc
open Go.RowKit

/-- the cells of the wheel that the law makes: 'a': its clock, 'v': its widths, 'B': its own block -/
def wheelCells (a : Addr) (v : Value) (B : Nat) : Array Value :=
  #[.iface 23 (.pointer (some a)), .int .u64 0, .int .i64 0, .pointer none, .int .i64 1000000, .int .u64 9671406556917033398, .int .u64 19, .int .i64 20, .int .u64 14757395258967641293, .int .u64 4,
    v, .int .i64 1, .nilFunc, .int .i32 0, .int .u32 0, .int .i64 0, .slice none 0 0, .slice none 0 0, .slice none 0 0, .int .i32 0, .int .i32 0, .int .i32 0,
    .int .i64 0, .int .i64 (-1), .int .i32 0, .int .i32 0, .bool false, .int .u64 0, .int .u64 0, .int .u64 0, .int .u64 0, .int .u64 0, .int .i64 0, .int .i64 0,
    .iface 86 (.pointer (some ⟨B, 13, none⟩)), .int .u32 0, .int .u32 0, .int .u64 0, .pointer none, .pointer none, .int .u64 0]

set_option maxHeartbeats 1000000 in
set_option maxRecDepth 10000 in
theorem wheel_walk (a : Addr) (w : World) : Calls Yba.prog 5 #[.pointer (some a)] w fun e w' => ∃ B g cap cur, e = .returned (.pointer (some ⟨B, 0, none⟩)) ∧ w.heap.size ≤ g ∧ g < B ∧
    w'.heap[g]? = some (.cells cur 37 (0, 0)) ∧ cur.toList.take 45 = dvs 15 ∧ w'.heap[B]? = some (.cells (wheelCells a (.slice (some ⟨g, 0, none⟩) 15 cap) B) 66 (0, 0)) ∧ w'.heap.size = B + 1 ∧ Below w.heap.size w w' := by
  go_enter Yba.func5, Yba.ntmps5
  go_wp2_with fail
  refine (newDiv_1000000 _).mono ?_
  rintro e w' ⟨rfl, rfl⟩
  go_wp2_with fail
  refine (newDiv_20 _).mono ?_
  rintro e w' ⟨rfl, rfl⟩
  go_wp2_with fail
  refine (widths_walk' _).mono ?_
  rintro e w3 ⟨g, cap, cur, rfl, hg, hc, ht, hb⟩
  go_wp2_with fail
  have hb2 := hb.size
  have hgl : g < w3.heap.size := by
    refine Nat.lt_of_not_le fun hge => ?_
    rw [Array.getElem?_eq_none hge] at hc
    cases hc
  simp only [World.size_alloc] at hg hb2
  go_ret
  refine ⟨w3.heap.size, g, cap, cur, rfl, by omega, hgl, ?_, ht, (MapKept.heap_alloc w3 _).1, World.size_alloc _ _, ?_⟩
  · rw [Below.heap_alloc w3 _ g hgl]; exact hc
  · exact ((((Below.refl _ w).alloc (Nat.le_refl _) _).alloc (by simp) _).trans (hb.mono (by simp only [World.size_alloc]; omega))).alloc (by omega) _
end Go.Proofs.Ybulkckyc
