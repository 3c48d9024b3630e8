import Derived.Test.YbulkckuwFns
import Derived.Test.YbulkckuwAppend
namespace Go.Proofs.Ybulkckuw
open Go.RowKit

theorem Yba.info50 : (Yba.prog.info? 50).map (fun i => (i.zero, i.size, i.bytes)) = some (some (.agg #[.pointer none, .bool false]), 2, 16) := by kernel_rfl

set_option maxHeartbeats 1000000 in
set_option maxRecDepth 100000 in
/-- refer of a use that is marked true already: nothing but a new block. -/
theorem refer_seen (Pb D r u : Nat) (v : Value) (l : List (Nat × Bool)) (w : World) (hD : w.heap[D]? = some (.cells #[.map (some r), v] 44 (0, 0))) (hr : w.heap[r]? = some (tab Pb l)) (hs : val u l = true) :
    Calls Yba.prog 7 #[.pointer (some ⟨D, 0, none⟩), .pointer (upt Pb u), .bool (usec u)] w fun e w' => e = .returned (.tuple #[]) ∧ Below w.heap.size w w' := by
  have hDl : D < w.heap.size := by
    refine Nat.lt_of_not_le fun hge => ?_
    rw [Array.getElem?_eq_none hge] at hD; cases hD
  have hrl : r < w.heap.size := by
    refine Nat.lt_of_not_le fun hge => ?_
    rw [Array.getElem?_eq_none hge] at hr; cases hr
  have d0 : w.cell? ⟨D, 0, none⟩ = some (.map (some r)) := by simp [World.cell?, hD]
  have hlk : ∀ o n, (Instr.lookup 41 (.map (some r)) (uv Pb u) false).run Yba.prog ((w.alloc o).drewN n) = .ok (.bool true) ((w.alloc o).drewN n) := fun o n => by
    rw [look_run Pb u r l ((w.alloc o).drewN n) ((Below.heap_alloc w o r hrl).trans hr), hs]
  unfold uv at hlk
  clear hD hr
  go_enter Yba.func7, Yba.ntmps7
  go_wp2_with fail
  go_quiet (fail)
  go_wp2_with fail
  go_end0
  exact ⟨rfl, ((Below.refl _ _).alloc (Nat.le_refl _) _).trans ⟨rfl, rfl, rfl, Nat.le_refl _, fun _ _ => rfl⟩⟩

theorem lt_of_blk {w : World} {k : Nat} {o : Obj} (h : w.heap[k]? = some o) : k < w.heap.size := by
  refine Nat.lt_of_not_le fun hge => ?_
  rw [Array.getElem?_eq_none hge] at h
  cases h

/-- the block that putO has put; the others -/
theorem putO_at {w : World} {r : Nat} {o : Obj} (h : r < w.heap.size) : (putO w r o).heap[r]? = some o := by
  simp [putO, h]
theorem putO_other {w : World} {r k : Nat} {o : Obj} (h : k ≠ r) : (putO w r o).heap[k]? = w.heap[k]? := by
  simp only [putO]
  rw [Array.getElem?_setIfInBounds_ne (fun e => h e.symm)]

/-- everything but the blocks of S is as it was -/
structure Kept (S : Nat → Prop) (w w' : World) : Prop where
  os : w'.os = w.os
  tape : w'.tape = w.tape
  output : w'.output = w.output
  size : w.heap.size ≤ w'.heap.size
  block : ∀ k, k < w.heap.size → ¬ S k → w'.heap[k]? = w.heap[k]?

theorem new_cells2 (w2 : World) (a b : Value) (j : Nat) (x : Value) (hj : ([a, b] : List Value)[j]? = some x) :
    ((w2.alloc (.cells #[a, b] 50)).drew).cell? ((⟨w2.heap.size, 0, none⟩ : Addr).add j) = some x := by
  have e : (⟨w2.heap.size, 0, none⟩ : Addr).add j = ⟨w2.heap.size, j, none⟩ := by simp [Addr.add]; omega
  have e2 : ((w2.alloc (.cells #[a, b] 50)).drew).heap[w2.heap.size]? = some (.cells #[a, b] 50) := (MapKept.heap_alloc w2 _).1
  rw [e]
  simp only [World.cell?, e2]
  simpa using hj

theorem setCell_at {w : World} {D i : Nat} {cs : Array Value} {t : TypeId} (x : Value) (h : w.heap[D]? = some (.cells cs t (0, 0))) : (w.setCell ⟨D, i, none⟩ x).heap[D]? = some (.cells (cs.setIfInBounds i x) t (0, 0)) := by
  simp [World.setCell, Array.getElem?_modify, h]

theorem refer_fin {Pb D r u base : Nat} {v : Value} {ts : List Nat} {l : List (Nat × Bool)} {w w2 w3 : World} {g cap : Nat} {o : Obj}
    (hDl : D < w.heap.size) (hrl : r < w.heap.size) (hDr : D ≠ r) (hbD : v.ownBlock ≠ some D) (hvr : v.ownBlock ≠ some r) (hsz : w.heap.size < w2.heap.size) (k2 : Kept (fun k => k = r) w w2)
    (hD2 : w2.heap[D]? = some (.cells #[.map (some r), v] 44 (0, 0))) (hr2 : w2.heap[r]? = some (tab Pb (upd u true l))) (hg3 : ((w2.alloc o).drew).grownBy w3 v.ownBlock)
    (ho3 : w3.ownsRow base 50 2 (.slice (some ⟨g, 0, none⟩) (ts.length + 1) cap) (ts.length + 1) (cellsOf Pb ts ++ [.pointer (upt Pb u), .bool (usec u)])) (hf3 : v.ownBlock = some g ∨ ((w2.alloc o).drew).heap.size ≤ g) :
    (w3.setCell ⟨D, 1, none⟩ (.slice (some ⟨g, 0, none⟩) (ts.length + 1) cap)).heap[D]? = some (.cells #[.map (some r), .slice (some ⟨g, 0, none⟩) (ts.length + 1) cap] 44 (0, 0)) ∧
    (w3.setCell ⟨D, 1, none⟩ (.slice (some ⟨g, 0, none⟩) (ts.length + 1) cap)).heap[r]? = some (tab Pb (upd u true l)) ∧
    (w3.setCell ⟨D, 1, none⟩ (.slice (some ⟨g, 0, none⟩) (ts.length + 1) cap)).ownsRow base 50 2 (.slice (some ⟨g, 0, none⟩) (ts.length + 1) cap) (ts.length + 1) (cellsOf Pb (ts ++ [u])) ∧
    (v.ownBlock = some g ∨ w.heap.size ≤ g) ∧ Kept (fun k => k = D ∨ k = r ∨ v.ownBlock = some k) w (w3.setCell ⟨D, 1, none⟩ (.slice (some ⟨g, 0, none⟩) (ts.length + 1) cap)) := by
  have hs : ((w2.alloc o).drew).heap.size = w2.heap.size + 1 := World.size_alloc w2 o
  have hold : ∀ k, k < w2.heap.size → v.ownBlock ≠ some k → w3.heap[k]? = w2.heap[k]? := fun k hk hne =>
    (hg3.block k (by rw [hs]; omega) (fun e => hne e.symm)).trans (Below.heap_alloc w2 o k hk)
  have hgD : g ≠ D := fun e => by
    subst e
    rcases hf3 with h | h
    · exact hbD h
    · rw [hs] at h; omega
  have hD3 := (hold D (by omega) hbD).trans hD2
  refine ⟨by simpa using setCell_at (i := 1) (.slice (some ⟨g, 0, none⟩) (ts.length + 1) cap) hD3, ?_, ?_, ?_, ?_⟩
  · rw [Below.heap_setCell w3 _ _ r (by exact fun e => hDr e.symm)]
    exact (hold r (by omega) hvr).trans hr2
  · rw [cellsOf_append]
    refine World.ownsRow.kept (row := some D) ho3 ⟨rfl, rfl, rfl, by simp, fun k _ hk => Below.heap_setCell w3 _ _ k (by exact fun e => hk (by rw [e]))⟩ (.inr ?_)
    simp only [Value.ownBlock, ne_eq, Option.some.injEq]
    exact hgD
  · rcases hf3 with h | h
    · exact .inl h
    · rw [hs] at h; exact .inr (by omega)
  · refine ⟨hg3.os.trans k2.os, hg3.tape.trans k2.tape, hg3.output.trans k2.output, ?_, fun k hk hS => ?_⟩
    · have := hg3.size
      rw [hs] at this
      simp
      omega
    · rw [Below.heap_setCell w3 _ _ k (by exact fun e => hS (.inl e))]
      exact (hold k (by omega) (fun e => hS (.inr (.inr e)))).trans (k2.block k hk (fun e => hS (.inr (.inl e))))

set_option maxHeartbeats 2000000 in
set_option maxRecDepth 100000 in
/-- refer of a use that is not marked true: it is marked, and queued. -/
theorem refer_new (Pb D r u base : Nat) (v : Value) (ts : List Nat) (l : List (Nat × Bool)) (w : World) (hD : w.heap[D]? = some (.cells #[.map (some r), v] 44 (0, 0))) (hr : w.heap[r]? = some (tab Pb l)) (hs : val u l = false)
    (hown : w.ownsRow base 50 2 v ts.length (cellsOf Pb ts)) (hbD : v.ownBlock ≠ some D) (hbase : base ≤ w.heap.size) (hts : ts.length ≤ 1024) :
    Calls Yba.prog 7 #[.pointer (some ⟨D, 0, none⟩), .pointer (upt Pb u), .bool (usec u)] w fun e w' => e = .returned (.tuple #[]) ∧
      ∃ g cap, w'.heap[D]? = some (.cells #[.map (some r), .slice (some ⟨g, 0, none⟩) (ts.length + 1) cap] 44 (0, 0)) ∧ w'.heap[r]? = some (tab Pb (upd u true l)) ∧
        w'.ownsRow base 50 2 (.slice (some ⟨g, 0, none⟩) (ts.length + 1) cap) (ts.length + 1) (cellsOf Pb (ts ++ [u])) ∧ (v.ownBlock = some g ∨ w.heap.size ≤ g) ∧ Kept (fun k => k = D ∨ k = r ∨ v.ownBlock = some k) w w' := by
  obtain ⟨i0, hi, hz0, hz1, hz2⟩ := info_parts Yba.info50
  have hDl := lt_of_blk hD
  have hrl := lt_of_blk hr
  have hDr : D ≠ r := fun e => by subst e; rw [hD] at hr; simp [tab] at hr
  have hvr : v.ownBlock ≠ some r := fun e => by
    rcases hown.2 with ⟨rfl, _⟩ | ⟨g, cap, cur, rfl, _, hg, _⟩
    · cases e
    · simp only [Value.ownBlock, Option.some.injEq] at e
      subst e; rw [hg] at hr; simp [tab] at hr
  have d0 : w.cell? ⟨D, 0, none⟩ = some (.map (some r)) := by simp [World.cell?, hD]
  have hlk : ∀ o n, (Instr.lookup 41 (.map (some r)) (uv Pb u) false).run Yba.prog ((w.alloc o).drewN n) = .ok (.bool false) ((w.alloc o).drewN n) := fun o n => by
    rw [look_run Pb u r l ((w.alloc o).drewN n) ((Below.heap_alloc w o r hrl).trans hr), hs]
  unfold uv at hlk
  go_enter Yba.func7, Yba.ntmps7
  go_wp2_with fail
  go_quiet (fail)
  -- the world ahead of the store into the table
  have k1 : Kept (fun _ => False) w ((w.alloc (.cells #[.pointer (upt Pb u), .bool (usec u)] 50)).drewN nq) := ⟨rfl, rfl, rfl, by show w.heap.size ≤ (w.alloc _).heap.size; simp, fun k hk _ => Below.heap_alloc w _ k hk⟩
  have hU : ((w.alloc (.cells #[.pointer (upt Pb u), .bool (usec u)] 50)).drewN nq).heap[w.heap.size]? = some (.cells #[.pointer (upt Pb u), .bool (usec u)] 50 (0, 0)) := (MapKept.heap_alloc w _).1
  have hown1 : ((w.alloc (.cells #[.pointer (upt Pb u), .bool (usec u)] 50)).drewN nq).ownsRow base 50 2 v ts.length (cellsOf Pb ts) := hown.alloc _
  generalize (w.alloc (.cells #[.pointer (upt Pb u), .bool (usec u)] 50)).drewN nq = w1 at k1 hU hown1
  have hD1 := (k1.block D hDl (fun h => h)).trans hD
  have hr1 := (k1.block r hrl (fun h => h)).trans hr
  clear hlk d0
  have c0 : w1.cell? ⟨D, 0, none⟩ = some (.map (some r)) := by simp [World.cell?, hD1]
  have u0 : w1.cell? ⟨w.heap.size, 0, none⟩ = some (.pointer (upt Pb u)) := by simp [World.cell?, hU]
  have u1 : w1.cell? ⟨w.heap.size, 1, none⟩ = some (.bool (usec u)) := by simp [World.cell?, hU]
  have hmu := store_run Pb u r true l w1.drew hr1
  unfold uv at hmu
  go_wp2_with fail
  go_region
  have k2 : Kept (fun k => k = r) w (putO w1.drew r (tab Pb (upd u true l))) := ⟨k1.os, k1.tape, k1.output, by have := k1.size; simpa [putO] using this, fun k hk hS => (putO_other hS).trans (k1.block k hk (fun h => h))⟩
  have hU2 : (putO w1.drew r (tab Pb (upd u true l))).heap[w.heap.size]? = _ := (putO_other (by omega)).trans hU
  have hD2 : (putO w1.drew r (tab Pb (upd u true l))).heap[D]? = _ := (putO_other hDr).trans hD1
  have hr2 : (putO w1.drew r (tab Pb (upd u true l))).heap[r]? = _ := putO_at (lt_of_blk hr1)
  have hown2 : (putO w1.drew r (tab Pb (upd u true l))).ownsRow base 50 2 v ts.length (cellsOf Pb ts) := by
    refine World.ownsRow.kept (row := some r) hown1 ⟨rfl, rfl, rfl, by simp [putO], fun k _ hk => putO_other (fun e => hk (by rw [e]))⟩ (.inr hvr)
  generalize putO w1.drew r (tab Pb (upd u true l)) = w2 at k2 hU2 hD2 hr2 hown2
  clear hmu c0 u0 u1 hU hown1 hD1 hr1 k1
  have c1 : w2.cell? ⟨D, 1, none⟩ = some v := by simp [World.cell?, hD2]
  have u0 : w2.cell? ⟨w.heap.size, 0, none⟩ = some (.pointer (upt Pb u)) := by simp [World.cell?, hU2]
  have u1 : w2.cell? ⟨w.heap.size, 1, none⟩ = some (.bool (usec u)) := by simp [World.cell?, hU2]
  have hsz2 := lt_of_blk hU2
  have hDl2 := lt_of_blk hD2
  have hA : ((w2.alloc (.cells #[.pointer (upt Pb u), .bool (usec u)] 50)).drew).ownsRow base 50 2 v ts.length (cellsOf Pb ts) := hown2.alloc _
  have hB : ∀ j x, ([.pointer (upt Pb u), .bool (usec u)] : List Value)[j]? = some x → ((w2.alloc (.cells #[.pointer (upt Pb u), .bool (usec u)] 50)).drew).cell? ((⟨w2.heap.size, 0, none⟩ : Addr).add j) = some x := new_cells2 w2 _ _
  have hC : ∀ x ∈ ([.pointer (upt Pb u), .bool (usec u)] : List Value), x.oneCell' = true := by
    intro x hx
    simp only [List.mem_cons, List.not_mem_nil, or_false] at hx
    rcases hx with rfl | rfl <;> rfl
  have h63 : ts.length + 1 ≤ maxLen := by unfold maxLen; omega
  have hbs : (ts.length + 1) * 16 ≤ 140737488355328 := by omega
  have hb2 : base ≤ ((w2.alloc (.cells #[.pointer (upt Pb u), .bool (usec u)] 50)).drew).heap.size := by
    show base ≤ (w2.alloc _).heap.size
    simp only [World.size_alloc]; omega
  have hcut : ∀ w3, ((w2.alloc (.cells #[.pointer (upt Pb u), .bool (usec u)] 50)).drew).grownBy w3 v.ownBlock → w3.heap[D]? = w2.heap[D]? := fun w3 hg => by
    refine (hg.block D (by show D < (w2.alloc _).heap.size; simp only [World.size_alloc]; omega) (fun e => hbD e.symm)).trans ?_
    exact Below.heap_alloc w2 _ D hDl2
  go_wp2_with fail
  go_region_law (refine step_append2 rfl (.tmp 26) (.tmp 28) 42 rfl base 50 i0 (.agg #[.pointer none, .bool false]) 2 16 Yba.underlying42 hi hz0 hz1 hz2 rfl (by decide) v ts.length (cellsOf Pb ts) rfl hA ⟨w2.heap.size, 0, none⟩ 1 1 [.pointer (upt Pb u), .bool (usec u)] rfl rfl hB hC h63 hbs hb2 (by decide) ?_; intro g3 cap3 w3 ho3 hg3 hf3; have c3 : w3.cell? ⟨D, 1, none⟩ = some v := (World.cell?_of_block (hcut w3 hg3)).trans c1; have f3 : w3.frozen? ⟨D, 1, none⟩ = false := (World.frozen?_of_block (hcut w3 hg3)).trans (by simp [World.frozen?, hD2]))
  all_goals
    go_end0
    exact ⟨rfl, g3, cap3, refer_fin hDl hrl hDr hbD hvr hsz2 k2 hD2 hr2 hg3 ho3 hf3⟩
end Go.Proofs.Ybulkckuw
