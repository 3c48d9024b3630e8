import Derived.Test.YbulkckssEmpty
import Derived.Deep.OwnRows
namespace Go.Proofs.Ybulkckss
open Go.RowKit
variable {b : Nat}

theorem Yba.info23 : (Yba.prog.info? 23).map (fun i => (i.zero, i.size, i.bytes)) = some (some (.int .u64 0), 1, 8) := by kernel_rfl

theorem allZ_rep (n : Nat) : allZ ((List.replicate n (0 : Int)).take n) = true := by
  unfold allZ; simp

theorem getD_rep (n i : Nat) : (List.replicate n (0 : Int)).getD i 0 = 0 := by
  rw [List.getD_eq_getElem?_getD, List.getElem?_replicate]
  split <;> rfl

theorem allZ_set (n i : Nat) (v : Int) (hi : i < n) (hv : v ≠ 0) : allZ (((List.replicate n (0 : Int)).set i v).take n) = false := by
  unfold allZ
  rw [List.all_eq_false]
  refine ⟨v, ?_, by simpa using hv⟩
  rw [List.take_of_length_le (by simp)]
  exact List.mem_set (by simpa using hi) v

theorem wrap_u64 (v : Nat) (h : v < 18446744073709551616) : IntKind.u64.wrap (v : Int) = (v : Int) := by
  have e1 : (2 : Int) ^ IntKind.u64.bits = 18446744073709551616 := by decide
  have e2 : IntKind.u64.signed = false := rfl
  simp only [IntKind.wrap, e1, e2, Bool.false_and]
  rw [if_neg (by simp)]
  omega

theorem isEmpty_made (m : Nat) (w : World) (hm : m < 300) (h : w.rowIs b 23 m (fun _ => .int .u64 0)) :
    Calls Yba.prog 7 #[.slice (some ⟨b, 0, none⟩) m m] w fun e w' => e = .returned (.bool true) ∧ w' = w := by
  have h1 := isEmpty_any b 0 m m (List.replicate m 0) w (by simp) (by omega) (fun i hi => by rw [getD_rep, Nat.zero_add]; exact h.cell hi)
  rwa [allZ_rep] at h1

theorem isEmpty_set (m i : Nat) (v : Int) (w : World) (hm : m < 300) (hi : i < m) (hv : v ≠ 0) (h : w.rowIs b 23 m (fun j => if j = i then .int .u64 v else .int .u64 0)) :
    Calls Yba.prog 7 #[.slice (some ⟨b, 0, none⟩) m m] w fun e w' => e = .returned (.bool false) ∧ w' = w := by
  have h1 := isEmpty_any b 0 m m ((List.replicate m 0).set i v) w (by simp) (by omega) (fun j hj => by
    rw [Nat.zero_add, h.cell hj, List.getD_eq_getElem?_getD, List.getElem?_set]
    by_cases e : j = i
    · subst e; simp [hj]
    · rw [if_neg e, if_neg (fun h => e h.symm)]
      simp [hj])
  rwa [allZ_set m i v hi hv] at h1

set_option maxHeartbeats 400000 in
theorem setBit_walk (n0 a1 a2 : Nat) (h0 : n0 < 65536) (h1 : a1 < 4294967296) (h2 : a2 < 256) (w : World) :
    Calls Yba.prog 4 #[.int .u16 n0, .int .u32 a1, .int .u8 a2] w fun e w' => e = .returned (.bool true) ∧ Below w.heap.size w w' := by
  obtain ⟨m, hm⟩ : ∃ m, m = n0 % 300 := ⟨_, rfl⟩
  have hm' : (n0 : Int) % 300 = (m : Int) := by omega
  have hml : m < 300 := by omega
  have hmk := run_make_row' (P := Yba.prog) 22 23 (.int .u64 0) 8 Yba.underlying22 Yba.info23 rfl .i64 .i64 m (by omega) (by omega)
  clear hm
  by_cases hz : m ≤ 0
  · go_enter Yba.func4, Yba.ntmps4
    go_wp2_with fail
    refine (isEmpty_made m _ hml (World.rowIs_made w (.int .u64 0) m 23)).mono ?_
    rintro e w' ⟨rfl, rfl⟩
    go_wp2_with fail
    go_ret
    exact ⟨rfl, (Below.refl _ _).alloc (Nat.le_refl _) _⟩
  · obtain ⟨i, hi⟩ : ∃ i, i = a1 % m := ⟨_, rfl⟩
    have hil : i < m := by rw [hi]; exact Nat.mod_lt _ (by omega)
    have hi' : (a1 : Int) % (m : Int) = (i : Int) := by rw [hi]; simp
    clear hi
    obtain ⟨v, hv⟩ : ∃ v, v = 2 ^ (a2 % 64) := ⟨_, rfl⟩
    have hvp : v ≠ 0 := by rw [hv]; exact Nat.ne_of_gt (Nat.pow_pos (by omega))
    have hvl : v < 18446744073709551616 := by rw [hv]; exact Nat.lt_of_lt_of_eq (Nat.pow_lt_pow_right (by omega) (Nat.mod_lt _ (by omega) : a2 % 64 < 64)) (by decide)
    have hv' : IntKind.u64.wrap (2 ^ (a2 % 64)) = (v : Int) := by
      have : (2 : Int) ^ (a2 % 64) = (v : Int) := by rw [hv]; simp
      rw [this]
      exact wrap_u64 v hvl
    clear hv
    have hr0 := World.rowIs_made w (.int .u64 0) m 23
    have hb0 : Below w.heap.size w (w.alloc (.cells (madeCells #[.int .u64 0] m) 23)) := (Below.refl _ _).alloc (Nat.le_refl _) _
    generalize hw1 : w.alloc (.cells (madeCells #[.int .u64 0] m) 23) = w1 at hr0 hb0
    have hmk1 := hmk w
    rw [hw1] at hmk1
    clear hw1 hmk
    go_enter Yba.func4, Yba.ntmps4
    go_wp2_with fail
    refine (isEmpty_made m _ hml hr0).mono ?_
    rintro e w' ⟨rfl, rfl⟩
    have hcell := hr0.cell hil
    have hfz := hr0.frozen i
    go_wp2_with fail
    refine (isEmpty_set m i v _ hml hil (by omega) (hr0.set i _)).mono ?_
    rintro e w' ⟨rfl, rfl⟩
    go_wp2_with fail
    go_ret
    exact ⟨rfl, hb0.setCell (Nat.le_refl _) _⟩
end Go.Proofs.Ybulkckss
