import Derived.Test.YbulkckycState
namespace Go.Proofs.Ybulkckyc
open Go.RowKit
variable {w0 wx w : World} {W C G : Nat} {D : Dat}

theorem Yba.zc114 : Yba.zeroCells114.size = 5120 := by kernel_rfl
theorem Yba.info113 : (Yba.prog.info? 113).map (fun i => (i.zero, i.size, i.bytes)) = some (some (.pointer none), 1, 8) := by kernel_rfl

theorem cells_of {w : World} {B : Nat} {Z : Array Value} {t : TypeId} {n : Nat} (hs : Z.size = n) (h : w.heap[B]? = some (.cells Z t (0, 0))) (o : Nat) (ho : o < n) : ∃ v, w.cell? ⟨B, o, none⟩ = some v := by
  refine ⟨Z[o]'(by omega), ?_⟩
  simp only [World.cell?, h]
  exact Array.getElem?_eq_getElem _

set_option maxHeartbeats 1000000 in
set_option maxRecDepth 100000 in
/-- take of an entry of a new chunk -/
theorem take_new (W n cap k u base : Nat) (ad : Option Addr) (tp : Option Addr) (due : Int) (xs : List Value) (w : World) (tW : tyOf w W = some 66) (hk : k < 2500) (hu : u < 2500) (hn : (k + 1) / 1024 = n) (hbase : base ≤ w.heap.size)
    (c18 : w.cell? ⟨W, 18, none⟩ = some (.slice ad n cap)) (ho : w.ownsRow base 113 1 (.slice ad n cap) n xs) (c19 : w.cell? ⟨W, 19, none⟩ = some (.int .i32 k)) (c20 : w.cell? ⟨W, 20, none⟩ = some (.int .i32 0)) (c21 : w.cell? ⟨W, 21, none⟩ = some (.int .i32 u)) :
    Calls Yba.prog 17 #[.pointer (some ⟨W, 18, none⟩), .pointer tp, .int .i64 due] w fun e w' => e = .returned (.tuple #[.int .i32 (k + 1 : Nat), .pointer (some ⟨w.heap.size, (k + 1) % 1024 * 5, none⟩)]) ∧ ∃ g' cap' wa,
      Kept (fun j => (Value.slice ad n cap).ownBlock = some j) ((w.setCell ⟨W, 19, none⟩ (.int .i32 (k + 1 : Nat))).alloc (.cells Yba.zeroCells114 114)) wa ∧ wa.ownsRow base 113 1 (.slice (some ⟨g', 0, none⟩) (n + 1) cap') (n + 1) (xs ++ [.pointer (some ⟨w.heap.size, 0, none⟩)]) ∧
      w' = ((((((wa.setCell ⟨W, 18, none⟩ (.slice (some ⟨g', 0, none⟩) (n + 1) cap')).setCell ⟨W, 21, none⟩ (.int .i32 (u + 1 : Nat))).setCell ⟨w.heap.size, (k + 1) % 1024 * 5, none⟩ (.pointer tp)).setCell ⟨w.heap.size, (k + 1) % 1024 * 5 + 1, none⟩ (.pointer none)).setCell ⟨w.heap.size, (k + 1) % 1024 * 5 + 2, none⟩ (.int .i64 due)).setCell ⟨w.heap.size, (k + 1) % 1024 * 5 + 3, none⟩ (.int .i32 0)).setCell ⟨w.heap.size, (k + 1) % 1024 * 5 + 4, none⟩ (.int .i32 0) := by
  have f19 := tyOf_frozen tW 19
  obtain ⟨i0, hi, hz0, hz1, hz2⟩ := info_parts Yba.info113
  have hk1 : ((k + 1 : Nat) : Int) = (k : Int) + 1 := by omega
  have hu1 : ((u + 1 : Nat) : Int) = (u : Int) + 1 := by omega
  have hkb : (k : Int) < 2500 := by omega
  have hub : (u : Int) < 2500 := by omega
  have hne : ((k : Int) == 2147483647) = false := by simp; omega
  have hlen : (((k : Int) + 1) / 1024 == (n : Int)) = true := by simp; omega
  have ho2 := (set_owns (o := 19) (x := .int .i32 ((k : Int) + 1)) ho tW (by decide)).alloc (.cells Yba.zeroCells114 114)
  have hsz : (w.setCell ⟨W, 19, none⟩ (.int .i32 ((k : Int) + 1))).heap.size = w.heap.size := by simp
  have hWl := tyOf_lt tW
  have hnW : (Value.slice ad n cap).ownBlock ≠ some W := fun e => tyOf_ne tW (own_ty ho W e) (by decide) rfl
  rw [hk1, hu1]
  go_enter Yba.func17, Yba.ntmps17
  go_wp2_with (at_builtin; refine wpList_append2 rfl (.tmp 56) (.tmp 58) 50 rfl base 113 i0 (.pointer none) 1 8 Yba.underlying50 hi hz0 hz1 hz2 rfl (by decide) _ n xs rfl (ho2.alloc _) ⟨w.heap.size + 1, 0, none⟩ 1 1 [.pointer (some ⟨w.heap.size, 0, none⟩)] rfl rfl ?c1 ?c2 ?c3 ?c4 ?c5 (by decide) ?_)
  case c1 =>
    intro j x hj
    have h := new_cells1 ((w.setCell ⟨W, 19, none⟩ (.int .i32 ((k : Int) + 1))).alloc (.cells Yba.zeroCells114 114)) (.pointer (some ⟨w.heap.size, 0, none⟩)) 113 j x hj
    rwa [World.size_alloc, hsz] at h
  case c2 =>
    intro x hx
    simp only [List.mem_cons, List.not_mem_nil, or_false] at hx
    subst hx; rfl
  case c3 => unfold maxLen; omega
  case c4 => omega
  case c5 => simp; omega
  intro g' cap' wa ho' hg' _
  have k' : Kept (fun j => (Value.slice ad n cap).ownBlock = some j) ((w.setCell ⟨W, 19, none⟩ (.int .i32 ((k : Int) + 1))).alloc (.cells Yba.zeroCells114 114)) wa := ⟨hg'.os, hg'.tape, hg'.output, by have := hg'.size; simp at this ⊢; omega, fun j hj hS => (hg'.block j (by simp at hj ⊢; omega) (fun e => hS e.symm)).trans (Below.heap_alloc _ _ j hj)⟩
  have hWb : wa.heap[W]? = (w.setCell ⟨W, 19, none⟩ (.int .i32 ((k : Int) + 1))).heap[W]? := (k'.block W (by simp; omega) hnW).trans (Below.heap_alloc _ _ W (by simp; omega))
  have hBb : wa.heap[w.heap.size]? = some (.cells Yba.zeroCells114 114 (0, 0)) := by
    have h1 := (MapKept.heap_alloc (w.setCell ⟨W, 19, none⟩ (.int .i32 ((k : Int) + 1))) (.cells Yba.zeroCells114 114)).1
    rw [hsz] at h1
    exact (k'.block w.heap.size (by simp) (fun e => by have := (ho.lt _ e).2; omega)).trans h1
  have tWa : tyOf wa W = some 66 := (tyOf_congr hWb).trans ((set_ty tW).trans tW)
  have tBa : tyOf wa w.heap.size = some 114 := tyOf_of hBb
  have tga : tyOf wa g' = some 113 := own_ty ho' g' rfl
  have q18 : wa.cell? ⟨W, 18, none⟩ = some (.slice ad n cap) := (World.cell?_of_block hWb).trans (by rw [set_cell c18, if_neg (by simp)])
  have q21 : wa.cell? ⟨W, 21, none⟩ = some (.int .i32 u) := (World.cell?_of_block hWb).trans (by rw [set_cell c21, if_neg (by simp)])
  have m18 := tyOf_frozen tWa 18
  have m21 := tyOf_frozen tWa 21
  have hWB : W ≠ w.heap.size := by omega
  have hgW := tyOf_ne tga tWa (by decide)
  have cB := cells_of Yba.zc114 hBb
  have A := at_walk W g' (n + 1) cap' w.heap.size (k + 1) (wa.setCell ⟨W, 18, none⟩ (.slice (some ⟨g', 0, none⟩) (n + 1) cap')) (World.cell?_setCell_same wa _ _ q18) (by omega) (by omega) (by
    rw [set_cell_ne hgW, ho'.cellAt _ (by omega), hn, List.getElem?_append_right (by rw [ho.1]; omega), ho.1]; simp)
  rw [hk1] at A
  have hp : (k + 1) % 1024 * 5 + 4 < 5120 := by omega
  generalize hpp : (k + 1) % 1024 * 5 = p at *
  have HP : Hid ((k + 1) % 1024 * 5 = p) := hpp
  clear hpp
  obtain ⟨v0, b0⟩ := cB p (by omega)
  obtain ⟨v1, b1⟩ := cB (p + 1) (by omega)
  obtain ⟨v2, b2⟩ := cB (p + 2) (by omega)
  obtain ⟨v3, b3⟩ := cB (p + 3) (by omega)
  obtain ⟨v4, b4⟩ := cB (p + 4) (by omega)
  have fB := tyOf_frozen tBa
  have g0 := fB p
  have g1 := fB (p + 1)
  have g2 := fB (p + 2)
  have g3 := fB (p + 3)
  have g4 := fB (p + 4)
  clear cB fB hBb hWb ho2 ho c18 c19 c20 c21 hg' f19 tW hn hlen hne hsz
  go_wp2_with fail
  refine A.mono ?_
  rintro e w' ⟨rfl, rfl⟩
  clear A
  go_wp2_with fail
  go_ret2
  have hpp := HP.out
  subst hpp
  exact ⟨rfl, g', cap', wa, k', ho', rfl⟩
end Go.Proofs.Ybulkckyc
