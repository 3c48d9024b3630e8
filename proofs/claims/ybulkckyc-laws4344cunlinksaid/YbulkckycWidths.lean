import Derived.Test.YbulkckycNewDiv
import Derived.OwnWalk
namespace Go.Proofs.Ybulkckyc
open Go.RowKit

/-- 20 to the k -/
def pw (k : Nat) : Int := 20 ^ k
def dM (k : Nat) : Int := ([0, 14757395258967641293, 11805916207174113035, 9444732965739290428, 15111572745182864684, 12089258196146291748, 9671406556917033398, 15474250491067253437, 12379400392853802749, 9903520314283042200, 15845632502852867519, 12676506002282294015, 10141204801825835212, 16225927682921336340, 12980742146337069072] : List Int).getD k 0
def dS (k : Nat) : Int := ([0, 4, 8, 12, 17, 21, 25, 30, 34, 38, 43, 47, 51, 56, 60] : List Int).getD k 0
/-- the three cells of the divisor by 20 to the k -/
def dvc (k : Nat) : List Value := [.int .i64 (pw k), .int .u64 (dM k), .int .u64 (dS k)]
def dvs : Nat → List Value
  | 0 => []
  | k + 1 => dvs k ++ dvc k
theorem dvs_len (k : Nat) : (dvs k).length = k * 3 := by
  induction k with
  | zero => rfl
  | succ k ih => simp [dvs, ih, dvc]; omega
theorem dvs_at (n k : Nat) (h : k < n) (j : Nat) (hj : j < 3) : (dvs n)[k * 3 + j]? = (dvc k)[j]? := by
  induction n with
  | zero => omega
  | succ n ih =>
    by_cases e : k = n
    · subst e
      show (dvs k ++ dvc k)[k * 3 + j]? = _
      rw [List.getElem?_append_right (by rw [dvs_len]; omega), dvs_len]
      congr 1
      omega
    · show (dvs n ++ dvc n)[k * 3 + j]? = _
      rw [List.getElem?_append_left (by rw [dvs_len]; omega)]
      exact ih (by omega)

theorem newDiv_pow (k : Nat) (h1 : 1 ≤ k) (h2 : k ≤ 14) (w : World) : Calls Yba.prog 10 #[.int .i64 (pw k)] w fun e w' => e = .returned (.agg #[.int .i64 (pw k), .int .u64 (dM k), .int .u64 (dS k)]) ∧ w' = w.alloc (.cells #[.int .i64 (pw k), .int .u64 (dM k), .int .u64 (dS k)] 37) := by
  have h : k = 1 ∨ k = 2 ∨ k = 3 ∨ k = 4 ∨ k = 5 ∨ k = 6 ∨ k = 7 ∨ k = 8 ∨ k = 9 ∨ k = 10 ∨ k = 11 ∨ k = 12 ∨ k = 13 ∨ k = 14 := by omega
  rcases h with rfl | rfl | rfl | rfl | rfl | rfl | rfl | rfl | rfl | rfl | rfl | rfl | rfl | rfl
  · exact newDiv_20 w
  · exact newDiv_400 w
  · exact newDiv_8000 w
  · exact newDiv_160000 w
  · exact newDiv_3200000 w
  · exact newDiv_64000000 w
  · exact newDiv_1280000000 w
  · exact newDiv_25600000000 w
  · exact newDiv_512000000000 w
  · exact newDiv_10240000000000 w
  · exact newDiv_204800000000000 w
  · exact newDiv_4096000000000000 w
  · exact newDiv_81920000000000000 w
  · exact newDiv_1638400000000000000 w

theorem Yba.info37 : (Yba.prog.info? 37).map (fun i => (i.zero, i.size, i.bytes)) = some (some (.agg #[.int .i64 0, .int .u64 0, .int .u64 0]), 3, 24) := by kernel_rfl

theorem pw_small (k : Nat) (h : k < 14) : 0 < pw k ∧ pw k ≤ 461168601842738790 := by
  have h : k = 0 ∨ k = 1 ∨ k = 2 ∨ k = 3 ∨ k = 4 ∨ k = 5 ∨ k = 6 ∨ k = 7 ∨ k = 8 ∨ k = 9 ∨ k = 10 ∨ k = 11 ∨ k = 12 ∨ k = 13 := by omega
  rcases h with rfl | rfl | rfl | rfl | rfl | rfl | rfl | rfl | rfl | rfl | rfl | rfl | rfl | rfl <;> decide
theorem pw_big : 461168601842738790 < pw 14 ∧ pw 14 ≤ 9223372036854775807 := by decide
theorem pw_succ (k : Nat) : pw k * 20 = pw (k + 1) := by unfold pw; rw [Int.pow_succ]

theorem new_cell3 (wr : World) (o : Obj) (a b c : Value) (j : Nat) (u : Value) (hj : ([a, b, c] : List Value)[j]? = some u) :
    ((wr.alloc o).alloc (.cells #[a, b, c] 37)).cell? ((⟨wr.heap.size + 1, 0, none⟩ : Addr).add j) = some u := by
  have e : (⟨wr.heap.size + 1, 0, none⟩ : Addr).add j = ⟨(wr.alloc o).heap.size, j, none⟩ := by simp [Addr.add]; omega
  have e2 : ((wr.alloc o).alloc (.cells #[a, b, c] 37)).heap[(wr.alloc o).heap.size]? = some (.cells #[a, b, c] 37) := (MapKept.heap_alloc (wr.alloc o) _).1
  rw [e]
  simp only [World.cell?, e2]
  simpa using hj

set_option maxHeartbeats 1000000 in
set_option maxRecDepth 10000 in
/-- levelWidths(20): a new slice of the 15 divisors. -/
theorem widths_walk (w : World) : Calls Yba.prog 11 #[.int .i64 20] w fun e w' => ∃ v, e = .returned v ∧ w'.ownsRow w.heap.size 37 3 v 15 (dvs 15) ∧ Below w.heap.size w w' := by
  obtain ⟨i0, hi, hz0, hz1, hz2⟩ := info_parts Yba.info37
  go_enter Yba.func11, Yba.ntmps11
  go_wp2_with fail
  refine (newDiv_1 _).mono ?_
  rintro e w' ⟨rfl, rfl⟩
  go_wp2_with fail
  go_loopw [3, 4] (fun v n wr => ∃ k : Nat, k ≤ 14 ∧ n = .int .i64 (pw k) ∧ wr.ownsRow w.heap.size 37 3 v (k + 1) (dvs (k + 1)) ∧ Below w.heap.size w wr) (fun _ n _ => (461168601842738790 * 20 - intOf n).toNat)
  case atStart =>
    refine ⟨0, by omega, rfl, ?_, ?_⟩
    · have h := World.ownsRow_lit (base := w.heap.size) (e := 37) (size := 3) (w.alloc (.cells #[.int .i64 1, .int .u64 0, .int .u64 0] 37)) #[.int .i64 1, .int .u64 0, .int .u64 0] 1 (by simp) (by decide) (by rfl)
      have e1 : (w.alloc (.cells #[.int .i64 1, .int .u64 0, .int .u64 0] 37)).heap.size = w.heap.size + 1 := by simp
      rw [e1] at h
      exact h
    · exact ((Below.refl _ _).alloc (Nat.le_refl _) _).alloc (by simp) _
  case round =>
    obtain ⟨k, hk, rfl, hown, hb⟩ := hrel
    by_cases hlt : k < 14
    · have hp := pw_small k hlt
      obtain ⟨hp0, hp1⟩ := hp
      have hs := pw_succ k
      go_wp2_with fail
      refine (newDiv_pow (k + 1) (by omega) (by omega) _).mono ?_
      rintro e w' ⟨rfl, rfl⟩
      go_wp2_with (at_builtin; refine wpList_append_own _ rfl (.tmp 14) (.tmp 17) 38 rfl w.heap.size 37 i0 (.agg #[.int .i64 0, .int .u64 0, .int .u64 0]) 3 24 Yba.underlying38 hi hz0 hz1 hz2 rfl (by decide) _ (k + 1) _ rfl ((hown.alloc _).alloc _) ⟨wr.heap.size + 1, 0, none⟩ 1 1 (dvc (k + 1)) rfl rfl ?c1 ?c2 ?c3 ?c4 ?c5 ?_)
      case c1 => exact fun j u hj => new_cell3 _ _ _ _ _ j u hj
      case c2 => intro u hu; simp [dvc] at hu; rcases hu with rfl | rfl | rfl <;> rfl
      case c3 => unfold maxLen; omega
      case c4 => omega
      case c5 => have := hb.size; simp; omega
      intro v' w1 hown' hgrow _
      go_wp2_with fail
      go_roundw
      case rel =>
        refine ⟨k + 1, by omega, rfl, hown', ?_⟩
        refine ((hb.alloc hb.size _).alloc (by simp; have := hb.size; omega) _).grown hgrow (by simp; have := hb.size; omega) ?_
        intro j hj
        exact (hown.lt j hj).1
      case measure => simp only [intOf, ← hs]; omega
    · obtain rfl : k = 14 := by omega
      have hp := pw_big
      obtain ⟨hp0, hp1⟩ := hp
      go_wp2_with fail
      go_ret
      exact ⟨_, rfl, hown, hb⟩

/-- the same, the slice written out. -/
theorem widths_walk' (w : World) : Calls Yba.prog 11 #[.int .i64 20] w fun e w' => ∃ g cap cur, e = .returned (.slice (some ⟨g, 0, none⟩) 15 cap) ∧ w.heap.size ≤ g ∧ w'.heap[g]? = some (.cells cur 37 (0, 0)) ∧ cur.toList.take 45 = dvs 15 ∧ Below w.heap.size w w' := by
  refine (widths_walk w).mono ?_
  rintro e w' ⟨v, rfl, hown, hb⟩
  obtain ⟨_, ⟨_, h⟩ | ⟨g, cap, cur, rfl, hg, hc, _, _, _, ht⟩⟩ := hown
  · omega
  · exact ⟨g, cap, cur, rfl, hg, hc, ht, hb⟩
end Go.Proofs.Ybulkckyc
