import Derived.Test.YbulkckycMem
import Derived.Test.YbulkckycAppend
import Derived.Deep.QuietTactic
import Derived.BigQuiet
namespace Go.Proofs.Ybulkckyc
open Go.RowKit

set_option maxHeartbeats 1000000 in
theorem len_walk (a : Option Addr) (n cap : Nat) (w : World) : Calls Yba.prog 72 #[.slice a n cap] w fun e w' => e = .returned (.int .i64 n) ∧ w' = w := by
  go_enter Yba.func72, Yba.ntmps72
  go_wp2_with fail
  go_ret
  exact ⟨rfl, rfl⟩

set_option maxHeartbeats 1000000 in
theorem less_walk (g n cap i j A a B b : Nat) (x y : Int) (w : World) (hi : i < n) (hj : j < n) (ci : w.cell? ⟨g, i, none⟩ = some (.pointer (some ⟨A, a, none⟩))) (cj : w.cell? ⟨g, j, none⟩ = some (.pointer (some ⟨B, b, none⟩)))
    (cx : w.cell? ⟨A, a, none⟩ = some (.int .i64 x)) (cy : w.cell? ⟨B, b, none⟩ = some (.int .i64 y)) :
    Calls Yba.prog 73 #[.slice (some ⟨g, 0, none⟩) n cap, .int .i64 i, .int .i64 j] w fun e w' => e = .returned (.bool (decide (x < y))) ∧ ∃ m, w' = w.drewN m := by
  have hi2 : (i : Int) < n := by omega
  have hj2 : (j : Int) < n := by omega
  go_enter Yba.func73, Yba.ntmps73
  go_wp2_with fail
  go_quiet (fail)
  go_wp2_with fail
  go_ret
  exact ⟨rfl, _, rfl⟩

set_option maxHeartbeats 2000000 in
set_option maxRecDepth 100000 in
theorem swap_walk (g n cap i j A a B b : Nat) (ox oy : Value) (w : World) (hi : i < n) (hj : j < n) (hij : i ≠ j) (hAg : g ≠ A) (hBg : g ≠ B) (hAB : (⟨A, a + 1, none⟩ : Addr) ≠ ⟨B, b + 1, none⟩) (ci : w.cell? ⟨g, i, none⟩ = some (.pointer (some ⟨A, a, none⟩))) (cj : w.cell? ⟨g, j, none⟩ = some (.pointer (some ⟨B, b, none⟩)))
    (cx : w.cell? ⟨A, a + 1, none⟩ = some ox) (cy : w.cell? ⟨B, b + 1, none⟩ = some oy) (fg : ∀ q, w.frozen? ⟨g, q, none⟩ = false) (fA : ∀ q, w.frozen? ⟨A, q, none⟩ = false) (fB : ∀ q, w.frozen? ⟨B, q, none⟩ = false) :
    Calls Yba.prog 74 #[.slice (some ⟨g, 0, none⟩) n cap, .int .i64 i, .int .i64 j] w fun e w' => e = .returned (.tuple #[]) ∧
      w' = ((((w.setCell ⟨g, i, none⟩ (.pointer (some ⟨B, b, none⟩))).setCell ⟨g, j, none⟩ (.pointer (some ⟨A, a, none⟩))).drew.setCell ⟨B, b + 1, none⟩ (.int .i64 i)).setCell ⟨A, a + 1, none⟩ (.int .i64 j)).drew := by
  have hi2 : (i : Int) < n := by omega
  have hj2 : (j : Int) < n := by omega
  have f1 := fg i
  have f2 := fg j
  have f3 := fA (a + 1)
  have f4 := fB (b + 1)
  go_enter Yba.func74, Yba.ntmps74
  go_wp2_with fail
  go_region
  have di : ((w.setCell ⟨g, i, none⟩ (.pointer (some ⟨B, b, none⟩))).setCell ⟨g, j, none⟩ (.pointer (some ⟨A, a, none⟩))).drew.cell? ⟨g, i, none⟩ = some (.pointer (some ⟨B, b, none⟩)) := (set_cell (set_cell ci)).trans (by simp)
  have dj : ((w.setCell ⟨g, i, none⟩ (.pointer (some ⟨B, b, none⟩))).setCell ⟨g, j, none⟩ (.pointer (some ⟨A, a, none⟩))).drew.cell? ⟨g, j, none⟩ = some (.pointer (some ⟨A, a, none⟩)) := (set_cell (set_cell cj)).trans (by simp)
  have dx : ((w.setCell ⟨g, i, none⟩ (.pointer (some ⟨B, b, none⟩))).setCell ⟨g, j, none⟩ (.pointer (some ⟨A, a, none⟩))).drew.cell? ⟨A, a + 1, none⟩ = some ox := (set_cell_ne (fun x => hAg x.symm)).trans ((set_cell_ne (fun x => hAg x.symm)).trans cx)
  have dy : ((w.setCell ⟨g, i, none⟩ (.pointer (some ⟨B, b, none⟩))).setCell ⟨g, j, none⟩ (.pointer (some ⟨A, a, none⟩))).drew.cell? ⟨B, b + 1, none⟩ = some oy := (set_cell_ne (fun x => hBg x.symm)).trans ((set_cell_ne (fun x => hBg x.symm)).trans cy)
  have m3 : ((w.setCell ⟨g, i, none⟩ (.pointer (some ⟨B, b, none⟩))).setCell ⟨g, j, none⟩ (.pointer (some ⟨A, a, none⟩))).drew.frozen? ⟨A, a + 1, none⟩ = false := by simp [f3]
  have m4 : ((w.setCell ⟨g, i, none⟩ (.pointer (some ⟨B, b, none⟩))).setCell ⟨g, j, none⟩ (.pointer (some ⟨A, a, none⟩))).drew.frozen? ⟨B, b + 1, none⟩ = false := by simp [f4]
  generalize hw2 : ((w.setCell ⟨g, i, none⟩ (.pointer (some ⟨B, b, none⟩))).setCell ⟨g, j, none⟩ (.pointer (some ⟨A, a, none⟩))).drew = w2 at *
  clear ci cj cx cy fg fA fB f1 f2 f3 f4
  have dx2 : ∀ v, (w2.setCell ⟨B, b + 1, none⟩ v).cell? ⟨A, a + 1, none⟩ = some ox := fun v => (World.cell?_setCell_other w2 _ _ _ (fun x => hAB x.symm)).trans dx
  go_wp2_with fail
  go_region
  go_wp2_with fail
  go_end0
  exact ⟨rfl, by rw [hw2]⟩

set_option maxHeartbeats 2000000 in
set_option maxRecDepth 100000 in
theorem pop_walk (W g n cap A a : Nat) (ox : Value) (w : World) (hgW : g ≠ W) (hAW : A ≠ W) (hgA : g ≠ A) (hn : n + 1 ≤ cap) (hc : n ≤ 2500) (c17 : w.cell? ⟨W, 17, none⟩ = some (.slice (some ⟨g, 0, none⟩) (n + 1) cap)) (fW : ∀ q, w.frozen? ⟨W, q, none⟩ = false)
    (cn : w.cell? ⟨g, n, none⟩ = some (.pointer (some ⟨A, a, none⟩))) (fg : ∀ q, w.frozen? ⟨g, q, none⟩ = false) (cx : w.cell? ⟨A, a + 1, none⟩ = some ox) (fA : ∀ q, w.frozen? ⟨A, q, none⟩ = false) :
    Calls Yba.prog 78 #[.pointer (some ⟨W, 17, none⟩)] w fun e w' => (∃ v, e = .returned v) ∧
      w' = (((w.setCell ⟨g, n, none⟩ (.pointer none)).setCell ⟨W, 17, none⟩ (.slice (some ⟨g, 0, none⟩) n cap)).setCell ⟨A, a + 1, none⟩ (.int .i64 (-1))) := by
  have f1 := fW 17
  have f2 := fg n
  have f3 := fA (a + 1)
  have hn2 : (n : Int) ≤ 2500 := by omega
  go_enter Yba.func78, Yba.ntmps78
  go_wp2_with fail
  go_ret
  exact ⟨⟨_, rfl⟩, rfl⟩

theorem Yba.info93 : (Yba.prog.info? 93).map (fun i => (i.zero, i.size, i.bytes)) = some (some (.pointer none), 1, 8) := by kernel_rfl
theorem assert93 (v : Value) (w : World) : (Instr.typeAssert (.iface 93 v) 20 93 false).run Yba.prog w = .ok v w := by
  simp [Instr.typeAssert, run_underlying Yba.underlying93]
theorem new_cells1 (w2 : World) (a : Value) (t : TypeId) (j : Nat) (x : Value) (hj : ([a] : List Value)[j]? = some x) :
    (w2.alloc (.cells #[a] t)).cell? ((⟨w2.heap.size, 0, none⟩ : Addr).add j) = some x := by
  have e : (⟨w2.heap.size, 0, none⟩ : Addr).add j = ⟨w2.heap.size, j, none⟩ := by simp [Addr.add]; omega
  have e2 : (w2.alloc (.cells #[a] t)).heap[w2.heap.size]? = some (.cells #[a] t) := (MapKept.heap_alloc w2 _).1
  rw [e]
  simp only [World.cell?, e2]
  simpa using hj

set_option maxHeartbeats 2000000 in
set_option maxRecDepth 100000 in
theorem push_walk (W n cap A a base : Nat) (ad : Option Addr) (ox : Value) (xs : List Value) (w : World) (tA : tyOf w A = some 56) (tW : tyOf w W = some 66) (hn : n ≤ 2500) (hbase : base ≤ w.heap.size) (c17 : w.cell? ⟨W, 17, none⟩ = some (.slice ad n cap))
    (cx : w.cell? ⟨A, a + 1, none⟩ = some ox) (ho : w.ownsRow base 93 1 (.slice ad n cap) n xs) :
    Calls Yba.prog 79 #[.pointer (some ⟨W, 17, none⟩), .iface 93 (.pointer (some ⟨A, a, none⟩))] w fun e w' => e = .returned (.tuple #[]) ∧ ∃ g' cap' wa,
      Kept (fun k => (Value.slice ad n cap).ownBlock = some k) (w.setCell ⟨A, a + 1, none⟩ (.int .i64 n)) wa ∧ wa.ownsRow base 93 1 (.slice (some ⟨g', 0, none⟩) (n + 1) cap') (n + 1) (xs ++ [.pointer (some ⟨A, a, none⟩)]) ∧
      w' = wa.setCell ⟨W, 17, none⟩ (.slice (some ⟨g', 0, none⟩) (n + 1) cap') := by
  have f3 := tyOf_frozen tA (a + 1)
  have hWA : W ≠ A := tyOf_ne tW tA (by decide)
  obtain ⟨i0, hi, hz0, hz1, hz2⟩ := info_parts Yba.info93
  have ho2 := set_owns (o := a + 1) (x := .int .i64 n) ho tA (by decide)
  have d17 : (w.setCell ⟨A, a + 1, none⟩ (.int .i64 n)).cell? ⟨W, 17, none⟩ = some (.slice ad n cap) := (set_cell_ne hWA).trans c17
  have hsz : (w.setCell ⟨A, a + 1, none⟩ (.int .i64 n)).heap.size = w.heap.size := by simp
  have t2 : tyOf (w.setCell ⟨A, a + 1, none⟩ (.int .i64 n)) W = some 66 := (set_ty tA).trans tW
  have hnW : (Value.slice ad n cap).ownBlock ≠ some W := fun e => tyOf_ne tW (own_ty ho W e) (by decide) rfl
  have hta := assert93 (.pointer (some ⟨A, a, none⟩)) w
  go_enter Yba.func79, Yba.ntmps79
  go_wp2_with (at_builtin; refine wpList_append2 rfl (.tmp 17) (.tmp 19) 49 rfl base 93 i0 (.pointer none) 1 8 Yba.underlying49 hi hz0 hz1 hz2 rfl (by decide) _ n xs rfl (ho2.alloc _) ⟨w.heap.size, 0, none⟩ 1 1 [.pointer (some ⟨A, a, none⟩)] rfl rfl ?c1 ?c2 ?c3 ?c4 ?c5 (by decide) ?_)
  case c1 =>
    intro j x hj
    have h := new_cells1 (w.setCell ⟨A, a + 1, none⟩ (.int .i64 n)) (.pointer (some ⟨A, a, none⟩)) 93 j x hj
    rwa [hsz] at h
  case c2 =>
    intro x hx
    simp only [List.mem_cons, List.not_mem_nil, or_false] at hx
    subst hx; rfl
  case c3 => unfold maxLen; omega
  case c4 => omega
  case c5 => simp; omega
  intro g' cap' wa ho' hg' _
  have k : Kept (fun k => (Value.slice ad n cap).ownBlock = some k) (w.setCell ⟨A, a + 1, none⟩ (.int .i64 n)) wa := ⟨hg'.os, hg'.tape, hg'.output, by have := hg'.size; simp at this ⊢; omega, fun j hj hS => (hg'.block j (by simp at hj ⊢; omega) (fun e => hS e.symm)).trans (Below.heap_alloc _ _ j hj)⟩
  have hWl : W < (w.setCell ⟨A, a + 1, none⟩ (.int .i64 n)).heap.size := tyOf_lt t2
  have tWa : tyOf wa W = some 66 := (tyOf_congr (k.block W hWl hnW)).trans t2
  have cWa : wa.cell? ⟨W, 17, none⟩ = some (.slice ad n cap) := (World.cell?_of_block (k.block W hWl hnW)).trans d17
  have fWa := tyOf_frozen tWa 17
  clear c17 cx ho ho2 d17 hg' f3
  go_wp2_with fail
  go_end0
  exact ⟨rfl, g', cap', wa, k, ho', rfl⟩
end Go.Proofs.Ybulkckyc
