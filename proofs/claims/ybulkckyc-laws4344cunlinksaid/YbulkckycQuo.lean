import Derived.Test.YbulkckycWheel
import Derived.Deep.RegionWith
import Derived.Deep.DeepCutAuto
namespace Go.Proofs.Ybulkckyc
open Go.RowKit

set_option maxHeartbeats 1000000 in
/-- quo of a divisor other than 1 -/
theorem quo_walk (d : Int) (m s n q : Nat) (hd : (d == 1) = false) (hm : m < 18446744073709551616) (hs : s < 64) (hn : n < 9223372036854775808) (hq : n * m / 18446744073709551616 / 2 ^ s = q) (w : World) :
    Calls Yba.prog 16 #[.agg #[.int .i64 d, .int .u64 m, .int .u64 s], .int .i64 n] w fun e w' => e = .returned (.int .i64 q) ∧ Below w.heap.size w w' := by
  have hM := Yba.bits_Mul64 n m (by omega) hm
  have HQ : Hid (n * m / 18446744073709551616 / 2 ^ s = q) := hq
  have hh : n * m / 18446744073709551616 < 9223372036854775808 := by
    have h1 : n * m ≤ n * 18446744073709551616 := Nat.mul_le_mul_left _ (by omega)
    have h2 : n * m / 18446744073709551616 ≤ n := by
      have := Nat.div_le_div_right (c := 18446744073709551616) h1
      rwa [Nat.mul_div_cancel _ (by omega)] at this
    omega
  clear hq
  go_enter Yba.func16, Yba.ntmps16
  go_wp2_with fail
  refine (hM _).mono ?_
  generalize n * m / 18446744073709551616 = hi at *
  generalize n * m % 18446744073709551616 = lo at *
  clear hM
  rintro e w' ⟨rfl, rfl⟩
  go_wp2_with fail
  have e : wrap64 ((hi : Int) / 2 ^ s) = (q : Int) := by
    have h1 : ((hi : Int) / 2 ^ s) = ((hi / 2 ^ s : Nat) : Int) := by simp
    have h2 : hi / 2 ^ s ≤ hi := Nat.div_le_self _ _
    rw [h1, HQ.out]
    rw [HQ.out] at h2
    exact IntWalk.wrap64_in _ ⟨by omega, by omega⟩
  go_ret
  exact ⟨by show Ending.returned (Value.int .i64 (wrap64 _)) = _; rw [e], (Below.refl _ _).alloc (Nat.le_refl _) _⟩

/-- quo of the divisor 1 -/
theorem quo_one (m s n : Value) (w : World) :
    Calls Yba.prog 16 #[.agg #[.int .i64 1, m, s], n] w fun e w' => e = .returned n ∧ Below w.heap.size w w' := by
  go_enter Yba.func16, Yba.ntmps16
  go_wp2_with fail
  go_ret
  exact ⟨rfl, (Below.refl _ _).alloc (Nat.le_refl _) _⟩

/-- quo of the divisor by 20 to the k: k at most 8, n below 2 to the 33 -/
theorem quo_pow (k n : Nat) (hk : k ≤ 8) (hn : n < 8589934592) (w : World) :
    Calls Yba.prog 16 #[.agg #[.int .i64 (pw k), .int .u64 (dM k), .int .u64 (dS k)], .int .i64 n] w fun e w' => e = .returned (.int .i64 (n / 20 ^ k : Nat)) ∧ Below w.heap.size w w' := by
  have h : k = 0 ∨ k = 1 ∨ k = 2 ∨ k = 3 ∨ k = 4 ∨ k = 5 ∨ k = 6 ∨ k = 7 ∨ k = 8 := by omega
  rcases h with rfl | rfl | rfl | rfl | rfl | rfl | rfl | rfl | rfl
  · have e : n / 20 ^ 0 = n := by simp
    rw [e]
    exact quo_one (.int .u64 0) (.int .u64 0) (.int .i64 n) w
  · exact quo_walk 20 14757395258967641293 4 n _ (by decide) (by decide) (by decide) (by omega) (by simp only [Nat.reducePow]; omega) w
  · exact quo_walk 400 11805916207174113035 8 n _ (by decide) (by decide) (by decide) (by omega) (by simp only [Nat.reducePow]; omega) w
  · exact quo_walk 8000 9444732965739290428 12 n _ (by decide) (by decide) (by decide) (by omega) (by simp only [Nat.reducePow]; omega) w
  · exact quo_walk 160000 15111572745182864684 17 n _ (by decide) (by decide) (by decide) (by omega) (by simp only [Nat.reducePow]; omega) w
  · exact quo_walk 3200000 12089258196146291748 21 n _ (by decide) (by decide) (by decide) (by omega) (by simp only [Nat.reducePow]; omega) w
  · exact quo_walk 64000000 9671406556917033398 25 n _ (by decide) (by decide) (by decide) (by omega) (by simp only [Nat.reducePow]; omega) w
  · exact quo_walk 1280000000 15474250491067253437 30 n _ (by decide) (by decide) (by decide) (by omega) (by simp only [Nat.reducePow]; omega) w
  · exact quo_walk 25600000000 12379400392853802749 34 n _ (by decide) (by decide) (by decide) (by omega) (by simp only [Nat.reducePow]; omega) w

/-- quo by the tick: whole milliseconds -/
theorem quo_tick (n : Nat) (hn : n < 4294967296) (w : World) :
    Calls Yba.prog 16 #[.agg #[.int .i64 1000000, .int .u64 9671406556917033398, .int .u64 19], .int .i64 ((n : Int) * 1000000)] w fun e w' => e = .returned (.int .i64 n) ∧ Below w.heap.size w w' := by
  have h := quo_walk 1000000 9671406556917033398 19 (n * 1000000) n (by decide) (by decide) (by decide) (by omega) (by simp only [Nat.reducePow]; omega) w
  have e : ((n * 1000000 : Nat) : Int) = (n : Int) * 1000000 := by simp
  rw [e] at h
  exact h

set_option maxHeartbeats 1000000 in
/-- ceilTicks of whole milliseconds -/
theorem ceil_walk (n : Nat) (hn : n < 4294967296) (w : World) :
    Calls Yba.prog 35 #[.int .i64 ((n : Int) * 1000000), .agg #[.int .i64 1000000, .int .u64 9671406556917033398, .int .u64 19]] w fun e w' => e = .returned (.int .i64 n) ∧ Below w.heap.size w w' := by
  go_enter Yba.func35, Yba.ntmps35
  go_wp2_with fail
  refine (quo_tick n hn _).mono ?_
  rintro e w1 ⟨rfl, hb⟩
  have c0 : w1.cell? ⟨w.heap.size, 0, none⟩ = some (.int .i64 1000000) := (hb.cell (by simp)).trans (by simp)
  have hb2 : Below w.heap.size w w1 := ((Below.refl _ _).alloc (Nat.le_refl _) _).trans (hb.mono (by simp))
  clear hb
  go_wp2_with fail
  go_ret
  exact ⟨rfl, hb2⟩

/-- the world behind a box, a draw and a call that lays new blocks alone -/
theorem below_call {w w1 : World} {o : Obj} {B : Nat} (hB : B ≤ w.heap.size) (h : Below (w.alloc o).drew.heap.size (w.alloc o).drew w1) : Below B w w1 := by
  have h1 : Below B w (w.alloc o).drew := ((Below.refl _ _).alloc hB _).drew
  refine h1.trans (h.mono ?_)
  show B ≤ (w.alloc o).heap.size
  simp; omega

set_option maxHeartbeats 1000000 in
/-- rem by 20 of a number below 20 -/
theorem rem_walk (n : Nat) (hn : n < 20) (w : World) :
    Calls Yba.prog 37 #[.agg #[.int .i64 20, .int .u64 14757395258967641293, .int .u64 4], .int .i64 n] w fun e w' => e = .returned (.int .i64 n) ∧ Below w.heap.size w w' := by
  have hq : ∀ w, Calls Yba.prog 16 #[.agg #[.int .i64 20, .int .u64 14757395258967641293, .int .u64 4], .int .i64 n] w fun e w' => e = .returned (.int .i64 0) ∧ Below w.heap.size w w' := fun w => by
    have h := quo_pow 1 n (by omega) (by omega) w
    have e : n / 20 ^ 1 = 0 := by omega
    rw [e] at h
    exact h
  have hw : IntKind.i64.wrap ((n : Int) - IntKind.i64.wrap 0) = (n : Int) := by
    have h0 : IntKind.i64.wrap 0 = 0 := by decide
    rw [h0]
    have h1 := IntWalk.wrap64_in ((n : Int) - 0) ⟨by omega, by omega⟩
    rw [← IntWalk.i64_left] at h1
    rw [h1]
    omega
  go_enter Yba.func37, Yba.ntmps37
  go_wp2_with fail
  go_region_with (go_at_call 16; refine (hq _).mono ?_; rintro e w1 ⟨rfl, hb1⟩; have c1 : w1.cell? ⟨w.heap.size, 0, none⟩ = some (.int .i64 20) := (hb1.cell (by simp)).trans (by simp))
  all_goals
    go_wp2_with fail
    go_ret
    refine ⟨?_, ?_⟩
    · simp [Act.put]
    · exact below_call (by omega) hb1

theorem pw8 : pw 8 = 25600000000 := by decide
theorem pw_pos (k : Nat) : 0 < pw k := by unfold pw; exact Int.pow_pos (by omega)

/-- the level and the place of a tick above nought -/
def AtLevel (n k : Nat) : Prop := k ≤ 7 ∧ n / 20 ^ k < 20

theorem level_of (n k : Nat) (hk : k ≤ 7) (h2 : (n : Int) < pw (k + 1)) : AtLevel n k := by
  refine ⟨hk, ?_⟩
  have h : k = 0 ∨ k = 1 ∨ k = 2 ∨ k = 3 ∨ k = 4 ∨ k = 5 ∨ k = 6 ∨ k = 7 := by omega
  rcases h with rfl | rfl | rfl | rfl | rfl | rfl | rfl | rfl <;> simp only [pw, Nat.reducePow, Int.reducePow, Nat.reduceAdd] at h2 ⊢ <;> omega

/-- the widths that the wheel holds -/
def Widths (G : Nat) (w : World) : Prop := G < w.heap.size ∧ ∀ k, k < 15 → w.cell? ⟨G, k * 3, none⟩ = some (.int .i64 (pw k)) ∧ w.cell? ⟨G, k * 3 + 1, none⟩ = some (.int .u64 (dM k)) ∧ w.cell? ⟨G, k * 3 + 2, none⟩ = some (.int .u64 (dS k))

theorem widths_of {w : World} {G : Nat} {cur : Array Value} (h : w.heap[G]? = some (.cells cur 37 (0, 0))) (ht : cur.toList.take 45 = dvs 15) : Widths G w := by
  refine ⟨?_, fun k hk => ?_⟩
  · refine Nat.lt_of_not_le fun hge => ?_
    rw [Array.getElem?_eq_none hge] at h; cases h
  · have hget : ∀ j, j < 45 → w.cell? ⟨G, j, none⟩ = (dvs 15)[j]? := fun j hj => by
      rw [← ht]
      simp [World.cell?, h, hj]
    refine ⟨(hget _ (by omega)).trans ?_, (hget _ (by omega)).trans ?_, (hget _ (by omega)).trans ?_⟩
    · exact dvs_at 15 k hk 0 (by omega)
    · exact dvs_at 15 k hk 1 (by omega)
    · exact dvs_at 15 k hk 2 (by omega)

set_option maxHeartbeats 1000000 in
theorem slotFor_zero (G cap : Nat) (w : World) :
    Calls Yba.prog 34 #[.slice (some ⟨G, 0, none⟩) 15 cap, .int .i64 0, .int .i64 0] w fun e w' => e = .returned (.tuple #[.int .i64 0, .int .i64 0]) ∧ Below w.heap.size w w' := by
  go_enter Yba.func34, Yba.ntmps34
  go_wp2_with fail
  go_ret2
  exact ⟨rfl, Below.refl _ _⟩

set_option maxHeartbeats 1000000 in
theorem slotFor_pos (G cap n : Nat) (h0 : 0 < n) (hn : n < 4294967296) (w : World) (hw : Widths G w) :
    Calls Yba.prog 34 #[.slice (some ⟨G, 0, none⟩) 15 cap, .int .i64 0, .int .i64 n] w fun e w' => ∃ k, AtLevel n k ∧ e = .returned (.tuple #[.int .i64 k, .int .i64 (n / 20 ^ k : Nat)]) ∧ Below w.heap.size w w' := by
  have hd : decide ((n : Int) ≤ 0) = false := by simp; omega
  have h8 := pw8
  have H8 : Hid (pw 8 = 25600000000) := h8
  clear h8
  go_enter Yba.func34, Yba.ntmps34
  go_wp2_with fail
  go_loop [6] (fun l => ∃ k : Nat, k ≤ 7 ∧ l = .int .i64 k) (fun l => 8 - (intOf l).toNat)
  case atStart => exact ⟨0, by omega, rfl⟩
  case round =>
    obtain ⟨k, hk, rfl⟩ := hrel
    have hg : decide ((k : Int) + 1 < 15) = true := by simp; omega
    have c1 := (hw.2 (k + 1) (by omega)).1
    have hp := pw_pos (k + 1)
    by_cases hge : pw (k + 1) ≤ (n : Int)
    · have hk7 : k + 1 ≤ 7 := by
        by_cases e : k = 7
        · subst e
          have := H8.out
          have e2 : pw (7 + 1) = pw 8 := rfl
          rw [e2] at hge
          omega
        · omega
      go_wp2_with fail
      go_round
      case rel => exact ⟨k + 1, hk7, by go_num⟩
      case measure => simp [intOf]; omega
    · obtain ⟨d0, d1, d2⟩ := hw.2 k (by omega)
      have hl := level_of n k hk (by omega)
      go_wp2_with fail
      refine (quo_pow k n (by omega) (by omega) _).mono ?_
      rintro e w1 ⟨rfl, hb⟩
      go_wp2_with fail
      go_ret2
      exact ⟨k, hl, rfl, hb⟩
end Go.Proofs.Ybulkckyc
