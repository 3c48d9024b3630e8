import Derived.Test.YbulkckssRows
import Derived.WalkKit
namespace Go.Proofs.Ybulkckss
open Go.RowKit

/-- every number of the list is nought -/
def allZ (zs : List Int) : Bool := zs.all (fun z => z == 0)

theorem allZ_take_succ (zs : List Int) (k : Nat) (h : k < zs.length) : allZ (zs.take (k + 1)) = (allZ (zs.take k) && (zs[k]?.getD 0 == 0)) := by
  have e : zs[k]?.getD 0 = zs[k] := by simp [h]
  rw [e]
  unfold allZ
  rw [List.take_succ_eq_append_getElem h, List.all_append]
  simp

theorem allZ_false_of (zs : List Int) (n k : Nat) (h : k < zs.length) (hn : k < n) (hz : (zs[k]?.getD 0 == 0) = false) : allZ (zs.take n) = false := by
  unfold allZ
  rw [List.all_eq_false]
  refine ⟨zs[k], ?_, ?_⟩
  · rw [List.mem_take_iff_getElem]
    exact ⟨k, by omega, rfl⟩
  · simp [h] at hz
    simpa using hz

theorem ret_bool {a b : Bool} (h : a = b) : Ending.returned (.bool a) = .returned (.bool b) := by rw [h]

set_option maxHeartbeats 400000 in
/-- isEmpty: it tells whether the first n cells are all nought; the world stands. -/
theorem isEmpty_any (b off n c : Nat) (zs : List Int) (w : World) (hn : n ≤ zs.length) (hm : n ≤ 9223372036854775807)
    (hc : ∀ i, i < n → w.cell? ⟨b, off + i, none⟩ = some (.int .u64 (zs.getD i 0))) :
    Calls Yba.prog 7 #[.slice (some ⟨b, off, none⟩) n c] w fun e w' => e = .returned (.bool (allZ (zs.take n))) ∧ w' = w := by
  go_enter Yba.func7, Yba.ntmps7
  go_wp2
  go_loop [7] (fun i => ∃ k : Nat, k ≤ n ∧ i = .int .i64 k ∧ Hid (allZ (zs.take k) = true)) (fun i => n - (intOf i).toNat)
  case atStart => exact ⟨0, Nat.zero_le _, rfl, by simp [allZ, Hid]⟩
  case round =>
    obtain ⟨k, hk, rfl, hz⟩ := hrel
    by_cases hlt : k < n
    · have hcell := hc k hlt
      have HS : Hid (allZ (zs.take (k + 1)) = (allZ (zs.take k) && (zs[k]?.getD 0 == 0))) := allZ_take_succ zs k (by omega)
      have HF : Hid ((zs[k]?.getD 0 == 0) = false → allZ (zs.take n) = false) := fun h => allZ_false_of zs n k (by omega) hlt h
      by_cases h0 : (zs[k]?.getD 0 != 0) = true
      · go_wp2
        go_ret
        exact ⟨ret_bool (HF.out (by simpa using h0)).symm, rfl⟩
      · have h1 : (zs[k]?.getD 0 != 0) = false := by simpa using h0
        go_wp2
        go_round
        case rel => exact ⟨k + 1, by omega, by go_num, by have := HS.out; rw [hz.out] at this; rw [Hid, this]; simpa using h1⟩
        case measure => simp [intOf]; omega
    · go_wp2
      have : k = n := by omega
      subst this
      go_ret
      exact ⟨ret_bool hz.out.symm, rfl⟩
end Go.Proofs.Ybulkckss
