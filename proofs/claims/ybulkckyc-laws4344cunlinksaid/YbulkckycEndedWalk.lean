import Derived.Test.YbulkckycWheel
import Derived.Test.YbulkckycLocks
import Derived.Lib.Builder
namespace Go.Proofs.Ybulkckyc
open Go.RowKit Go.MuLone

/-- a cell of a block whose cells are known -/
theorem cell_of {w : World} {B : Nat} {cs : Array Value} {t : TypeId} {m : Nat × Nat} (h : w.heap[B]? = some (.cells cs t m)) (i : Nat) : w.cell? ⟨B, i, none⟩ = cs[i]? := by
  simp [World.cell?, h]
theorem frozen_of {w : World} {B : Nat} {cs : Array Value} {t : TypeId} (h : w.heap[B]? = some (.cells cs t (0, 0))) (i : Nat) : w.frozen? ⟨B, i, none⟩ = false := by
  simp [World.frozen?, h]

/-- a cell behind a store -/
theorem cellSet {w : World} {a b : Addr} {v u : Value} (h : w.cell? b = some u) : (w.setCell a v).cell? b = some (if a = b then v else u) := by
  by_cases e : a = b
  · subst e; rw [if_pos rfl]; exact World.cell?_setCell_same w a v h
  · rw [if_neg e]; exact (World.cell?_setCell_other w a b v e).trans h

set_option maxHeartbeats 1000000 in
theorem withdraw_rep (B T R : Nat) (p : Int) (r : Value) (w : World)
    (ce : w.cell? ⟨T, 3, none⟩ = some (.int .i32 0)) (cr : w.cell? ⟨T, 2, none⟩ = some (.pointer (some ⟨R, 0, none⟩)))
    (ca : w.cell? ⟨R, 6, none⟩ = some r) (fa : w.frozen? ⟨R, 6, none⟩ = false) (cp : w.cell? ⟨B, 27, none⟩ = some (.int .u64 p)) (fp : w.frozen? ⟨B, 27, none⟩ = false) :
    Calls Yba.prog 7 #[.pointer (some ⟨B, 0, none⟩), .pointer (some ⟨T, 0, none⟩)] w fun e w' => e = .returned (.tuple #[]) ∧
      w' = (w.setCell ⟨R, 6, none⟩ (.int .u8 2)).setCell ⟨B, 27, none⟩ (.int .u64 (IntKind.u64.wrap (p - 1))) := by
  go_enter Yba.func7, Yba.ntmps7
  go_wp2_with fail
  go_end0
  exact ⟨rfl, rfl⟩

theorem Yba.info73 : (Yba.prog.info? 73).map (fun i => i.size) = some 7 := by kernel_rfl

/-- what the walk reads of the world ahead of Lock -/
def Facts2 (B R C : Nat) (a0 a4 : Int) (rs ts : Array Value) (w2 : World) : Prop :=
  w2.cell? ⟨B, 13, none⟩ = some (.int .i32 0) ∧ w2.cell? ⟨B, 17, none⟩ = some (.slice none 0 0) ∧ w2.cell? ⟨B, 21, none⟩ = some (.int .i32 0) ∧ w2.cell? ⟨B, 27, none⟩ = some (.int .u64 a0) ∧
  w2.cell? ⟨B, 28, none⟩ = some (.int .u64 0) ∧ w2.cell? ⟨B, 29, none⟩ = some (.int .u64 a4) ∧ w2.cell? ⟨C, 0, none⟩ = some (.int .i64 0) ∧ w2.frozen? ⟨B, 13, none⟩ = false ∧ w2.frozen? ⟨B, 27, none⟩ = false ∧
  (∀ i, w2.cell? ⟨R, i, none⟩ = rs[i]?) ∧ (∀ i, w2.cell? ⟨R + 1, i, none⟩ = ts[i]?) ∧ w2.frozen? ⟨R, 6, none⟩ = false

theorem facts2 (B : Nat) (w1 : World) (C : Nat) (a0 a4 : Int) (rs ts : Array Value) (hC : C < B) (hlt : B < w1.heap.size)
    (c13 : w1.cell? ⟨B, 13, none⟩ = some (.int .i32 0)) (c17 : w1.cell? ⟨B, 17, none⟩ = some (.slice none 0 0)) (c21 : w1.cell? ⟨B, 21, none⟩ = some (.int .i32 0)) (c27 : w1.cell? ⟨B, 27, none⟩ = some (.int .u64 0))
    (c28 : w1.cell? ⟨B, 28, none⟩ = some (.int .u64 0)) (c29 : w1.cell? ⟨B, 29, none⟩ = some (.int .u64 0)) (cc : w1.cell? ⟨C, 0, none⟩ = some (.int .i64 0)) (f13 : w1.frozen? ⟨B, 13, none⟩ = false) (f27 : w1.frozen? ⟨B, 27, none⟩ = false) :
    Facts2 B w1.heap.size C a0 a4 rs ts ((((w1.setCell ⟨B, 27, none⟩ (.int .u64 a0)).setCell ⟨B, 29, none⟩ (.int .u64 a4)).alloc (.cells rs 73)).alloc (.cells ts 76)) := by
  generalize hw : (w1.setCell ⟨B, 27, none⟩ (.int .u64 a0)).setCell ⟨B, 29, none⟩ (.int .u64 a4) = w5
  have hs : w5.heap.size = w1.heap.size := by rw [← hw]; simp
  have d13 : w5.cell? ⟨B, 13, none⟩ = some (.int .i32 0) := by rw [← hw, cellSet (cellSet c13)]; simp
  have d17 : w5.cell? ⟨B, 17, none⟩ = some (.slice none 0 0) := by rw [← hw, cellSet (cellSet c17)]; simp
  have d21 : w5.cell? ⟨B, 21, none⟩ = some (.int .i32 0) := by rw [← hw, cellSet (cellSet c21)]; simp
  have d27 : w5.cell? ⟨B, 27, none⟩ = some (.int .u64 a0) := by rw [← hw, cellSet (cellSet c27)]; simp
  have d28 : w5.cell? ⟨B, 28, none⟩ = some (.int .u64 0) := by rw [← hw, cellSet (cellSet c28)]; simp
  have d29 : w5.cell? ⟨B, 29, none⟩ = some (.int .u64 a4) := by rw [← hw, cellSet (cellSet c29)]; simp
  have dc : w5.cell? ⟨C, 0, none⟩ = some (.int .i64 0) := by rw [← hw, cellSet (cellSet cc)]; simp
  have e13 : w5.frozen? ⟨B, 13, none⟩ = false := by rw [← hw]; simp [f13]
  have e27 : w5.frozen? ⟨B, 27, none⟩ = false := by rw [← hw]; simp [f27]
  have hold : ∀ b, b < w5.heap.size → ((w5.alloc (.cells rs 73)).alloc (.cells ts 76)).heap[b]? = w5.heap[b]? := fun b h =>
    (Below.heap_alloc _ _ b (by simp; omega)).trans (Below.heap_alloc _ _ b h)
  have hc : ∀ b o, b < w5.heap.size → ((w5.alloc (.cells rs 73)).alloc (.cells ts 76)).cell? ⟨b, o, none⟩ = w5.cell? ⟨b, o, none⟩ := fun b o h => World.cell?_of_block (hold b h)
  have hf : ∀ b o, b < w5.heap.size → ((w5.alloc (.cells rs 73)).alloc (.cells ts 76)).frozen? ⟨b, o, none⟩ = w5.frozen? ⟨b, o, none⟩ := fun b o h => World.frozen?_of_block (hold b h)
  have hR : ((w5.alloc (.cells rs 73)).alloc (.cells ts 76)).heap[w5.heap.size]? = some (.cells rs 73) := (Below.heap_alloc _ _ _ (by simp)).trans (MapKept.heap_alloc w5 _).1
  have hT : ((w5.alloc (.cells rs 73)).alloc (.cells ts 76)).heap[w5.heap.size + 1]? = some (.cells ts 76) := by
    have := (MapKept.heap_alloc (w5.alloc (.cells rs 73)) (.cells ts 76)).1
    rwa [World.size_alloc] at this
  rw [← hs] at hlt ⊢
  exact ⟨(hc _ _ hlt).trans d13, (hc _ _ hlt).trans d17, (hc _ _ hlt).trans d21, (hc _ _ hlt).trans d27, (hc _ _ hlt).trans d28, (hc _ _ hlt).trans d29, (hc _ _ (by omega)).trans dc, (hf _ _ hlt).trans e13, (hf _ _ hlt).trans e27,
    fun i => cell_of hR i, fun i => cell_of hT i, frozen_of hR 6⟩

theorem below2 {w w1 : World} (B C : Nat) (a0 a4 : Int) (rs ts : Array Value) (hC : C < B) (hlt : B < w1.heap.size) (hb : Below C w w1) :
    Below C w ((((w1.setCell ⟨B, 27, none⟩ (.int .u64 a0)).setCell ⟨B, 29, none⟩ (.int .u64 a4)).alloc (.cells rs 73)).alloc (.cells ts 76)) := by
  exact (((hb.setCell (by exact Nat.le_of_lt hC) _).setCell (by exact Nat.le_of_lt hC) _).alloc (by simp; omega) _).alloc (by simp; omega) _

set_option maxHeartbeats 2000000 in
set_option maxRecDepth 10000 in
theorem ended_walk (a0 : Int) (a1 : Bool) (a2 : Int) (a3 : Int) (a4 : Int) (w3 : 0 ≤ a3 ∧ a3 ≤ 255) (w : World) :
    Calls Yba.prog 3 #[.int .u64 a0, .bool a1, .int .i64 a2, .int .u8 a3, .int .u64 a4] w fun e w' => e = .returned (.bool true) ∧ Below w.heap.size w w' := by
  obtain ⟨i73, hi73, _⟩ := Option.map_eq_some_iff.1 Yba.info73
  go_enter Yba.func3, Yba.ntmps3
  go_wp2_with fail
  refine (wheel_walk ⟨w.heap.size, 0, none⟩ _).mono ?_
  rintro e w1 ⟨B, g, cap, cur, rfl, hg, hgB, hgc, hgt, hB, hsz, hb⟩
  have c13 : w1.cell? ⟨B, 13, none⟩ = some (.int .i32 0) := cell_of hB 13
  have c17 : w1.cell? ⟨B, 17, none⟩ = some (.slice none 0 0) := cell_of hB 17
  have c21 : w1.cell? ⟨B, 21, none⟩ = some (.int .i32 0) := cell_of hB 21
  have c27 : w1.cell? ⟨B, 27, none⟩ = some (.int .u64 0) := cell_of hB 27
  have c28 : w1.cell? ⟨B, 28, none⟩ = some (.int .u64 0) := cell_of hB 28
  have c29 : w1.cell? ⟨B, 29, none⟩ = some (.int .u64 0) := cell_of hB 29
  have cc : w1.cell? ⟨w.heap.size, 0, none⟩ = some (.int .i64 0) := (hb.cell (by simp)).trans (by simp)
  have f13 := frozen_of hB 13
  have f27 := frozen_of hB 27
  have f29 := frozen_of hB 29
  have hBw : w.heap.size < B := by simp at hg; omega
  have hb' : Below w.heap.size w w1 := ((Below.refl _ _).alloc (Nat.le_refl _) _).trans (hb.mono (by simp))
  have HS : Hid (w1.heap.size = B + 1) := hsz
  have hlt : B < w1.heap.size := by omega
  clear hgc hgt hB hsz hb hg hgB
  go_wp2_with fail
  have F := facts2 B w1 w.heap.size a0 a4 #[.nilIface, .int .u64 0, .int .i64 0, .pointer none, .int .i64 a2, .bool a1, .int .u8 (a3 % 3)] #[.pointer (some ⟨B, 0, none⟩), .nilFunc, .pointer (some ⟨w1.heap.size, 0, none⟩), .int .i32 0] hBw hlt c13 c17 c21 c27 c28 c29 cc f13 f27
  have hb2 := below2 B w.heap.size a0 a4 #[.nilIface, .int .u64 0, .int .i64 0, .pointer none, .int .i64 a2, .bool a1, .int .u8 (a3 % 3)] #[.pointer (some ⟨B, 0, none⟩), .nilFunc, .pointer (some ⟨w1.heap.size, 0, none⟩), .int .i32 0] hBw hlt hb'
  generalize (((w1.setCell ⟨B, 27, none⟩ (.int .u64 a0)).setCell ⟨B, 29, none⟩ (.int .u64 a4)).alloc (.cells #[.nilIface, .int .u64 0, .int .i64 0, .pointer none, .int .i64 a2, .bool a1, .int .u8 (a3 % 3)] 73)).alloc (.cells #[.pointer (some ⟨B, 0, none⟩), .nilFunc, .pointer (some ⟨w1.heap.size, 0, none⟩), .int .i32 0] 76) = w2 at F hb2
  clear c13 c17 c21 c27 c28 c29 cc f13 f27 f29
  obtain ⟨c13, c17, c21, c27, c28, c29, cc, f13, f27, cR, cT, fR⟩ := F
  have r4 : w2.cell? ⟨w1.heap.size, 4, none⟩ = some (.int .i64 a2) := cR 4
  have r5 : w2.cell? ⟨w1.heap.size, 5, none⟩ = some (.bool a1) := cR 5
  have r6 : w2.cell? ⟨w1.heap.size, 6, none⟩ = some (.int .u8 (a3 % 3)) := cR 6
  have t2 : w2.cell? ⟨w1.heap.size + 1, 2, none⟩ = some (.pointer (some ⟨w1.heap.size, 0, none⟩)) := cT 2
  have t3 : w2.cell? ⟨w1.heap.size + 1, 3, none⟩ = some (.int .i32 0) := cT 3
  clear cR cT
  generalize w1.heap.size = R at *
  have hpp := fun w => Lib.run_neq_ptr_same (P := Yba.prog) w (tp := 67) (te := 73) ⟨R, 0, none⟩ Yba.underlying67 hi73
  refine (lock_free Yba.muLib ⟨B, 13, none⟩ w2 c13 f13).mono ?_
  rintro e w' ⟨rfl, rfl⟩
  go_wp2_with fail
  refine (withdraw_rep B (R + 1) R a0 (.int .u8 (a3 % 3)) _ ?_ ?_ ?_ ?_ ?_ ?_).mono ?_
  · rw [cellSet t3, if_neg (by simp)]
  · rw [cellSet t2, if_neg (by simp)]
  · rw [cellSet r6, if_neg (by simp)]
  · simp [fR]
  · rw [cellSet c27, if_neg (by simp)]
  · simp [f27]
  rintro e w' ⟨rfl, rfl⟩
  go_wp2_with fail
  refine (unlock_held Yba.muLib ⟨B, 13, none⟩ _ ?_ ?_).mono ?_
  · rw [cellSet (cellSet (cellSet c13)), if_neg (by simp), if_neg (by simp), if_pos rfl]
  · simp [f13]
  rintro e w' ⟨rfl, rfl⟩
  go_wp2_with fail
  go_ret
  exact ⟨rfl, (((hb2.setCell (by exact Nat.le_of_lt hBw) _).setCell (by show w.heap.size ≤ R; omega) _).setCell (by exact Nat.le_of_lt hBw) _).setCell (by exact Nat.le_of_lt hBw) _⟩
end Go.Proofs.Ybulkckyc
