import Derived.Test.YbulkckssMem
import Derived.Test.YbulkckssSym
namespace Go.Proofs.Ybulkckss
open Go.RowKit

structure Ed where
  fr : Nat
  b : Nat
  tt : Nat
def Ed.val (e : Ed) : Value := .agg #[.int .i32 e.fr, .int .u8 e.b, .int .i32 e.tt]
def cmpv (x y : Nat) : Int := if x < y then -1 else if y < x then 1 else 0

theorem isNaN_walk (x : Int) (w : World) : Calls Yba.prog 27 #[.int .i32 x] w fun e w' => e = .returned (.bool false) ∧ w' = w := by
  go_enter Yba.func27, Yba.ntmps27
  go_wp2_with fail
  go_ret
  simp
set_option maxHeartbeats 1000000 in
theorem compare_walk (x y : Nat) (w : World) : Calls Yba.prog 20 #[.int .i32 x, .int .i32 y] w fun e w' => e = .returned (.int .i64 (cmpv x y)) ∧ w' = w := by
  have N := fun z : Int => isNaN_walk z w
  go_enter Yba.func20, Yba.ntmps20
  go_wp2_with fail
  refine (N _).mono ?_
  rintro e w1 ⟨rfl, rfl⟩
  go_wp2_with fail
  refine (N _).mono ?_
  rintro e w2 ⟨rfl, rfl⟩
  clear N
  by_cases h1 : x < y
  · have hI : (x : Int) < (y : Int) := by omega
    go_wp2_with fail
    go_ret
    exact ⟨by unfold cmpv; rw [if_pos h1]; rfl, rfl⟩
  · have hI : (y : Int) ≤ (x : Int) := by omega
    by_cases h2 : y < x
    · have hI2 : (y : Int) < (x : Int) := by omega
      go_wp2_with fail
      go_ret
      exact ⟨by unfold cmpv; rw [if_neg h1, if_pos h2]; rfl, rfl⟩
    · have hI2 : (x : Int) ≤ (y : Int) := by omega
      go_wp2_with fail
      go_ret
      exact ⟨by unfold cmpv; rw [if_neg h1, if_neg h2]; rfl, rfl⟩
set_option maxHeartbeats 1000000 in
theorem closure_walk (x y : Ed) (w : World) : Calls Yba.prog 19 #[x.val, y.val] w fun e w' => e = .returned (.int .i64 (cmpv x.fr y.fr)) ∧ Below w.heap.size w w' := by
  have C := compare_walk x.fr y.fr
  unfold Ed.val
  go_enter Yba.func19, Yba.ntmps19
  go_wp2_with fail
  refine (C _).mono ?_
  rintro e w1 ⟨rfl, rfl⟩
  go_wp2_with fail
  go_ret
  exact ⟨rfl, ((Below.refl _ _).alloc (Nat.le_refl _) _).alloc (by simp) _⟩
end Go.Proofs.Ybulkckss
