import Derived.Test.YbulkckuwRefer
import Derived.Test.YbulkckuwUses
import Derived.Carry
import Derived.Deep.RegionWith
import Derived.Deep.DeepCutAuto
namespace Go.Proofs.Ybulkckuw
open Go.RowKit
variable {cs : List Nat}

/-- the number of a step's use -/
def code (p : Nat) (s : Bool) : Nat := p % 5 * 2 + (if s then 1 else 0)
theorem code_ptr (Pb p : Nat) (s : Bool) : upt Pb (code p s) = if p % 5 = 4 then none else some ⟨Pb, p % 5 * 17, none⟩ := by
  unfold upt code
  have : (p % 5 * 2 + (if s then 1 else 0)) / 2 = p % 5 := by cases s <;> simp <;> omega
  rw [this]
theorem code_sec (p : Nat) (s : Bool) : usec (code p s) = s := by
  unfold usec code
  cases s
  · simp
  · have : (p % 5 * 2 + 1) % 2 = 1 := by omega
    simp [this]

theorem ptr_code (Pb p : Nat) (s : Bool) (hp : p < 256) (w : World) :
    Calls Yba.prog 5 #[.pointer (some ⟨Pb, 0, none⟩), .int .u8 p] w fun e w' => e = .returned (.pointer (upt Pb (code p s))) ∧ w' = w := by
  rw [code_ptr]
  exact ptr_walk Pb p hp w

/-- the pool's cells at its making -/
def nd0 : List Value := [.string ⟨#[]⟩, .int .i64 0, .slice none 0 0, .pointer none, .pointer none, .pointer none, .pointer none, .slice none 0 0, .bool false, .pointer none, .pointer none, .slice none 0 0, .bool false, .pointer none, .bool false, .pointer none, .string ⟨#[]⟩]
def pool0 : Array Value := (nd0 ++ nd0 ++ nd0 ++ nd0).toArray
theorem zero39 (w : World) : (zeroValue 39).run Yba.prog w = .ok (.agg pool0) w := by kernel_rfl

/-- the state of the script's loop: the describer at D, its table at r, both queues at the uses us -/
structure St (w : World) (Pb r D : Nat) (us : List Nat) (vt vm : Value) (wr : World) : Prop where
  hD : wr.heap[D]? = some (.cells #[.map (some r), vt] 44 (0, 0))
  hr : wr.heap[r]? = some (tab Pb (marks us))
  ot : wr.ownsRow (w.heap.size + 3) 50 2 vt us.length (cellsOf Pb us)
  om : wr.ownsRow (w.heap.size + 3) 50 2 vm us.length (cellsOf Pb us)
  ap : ∀ g, vt.ownBlock = some g → vm.ownBlock ≠ some g
  hb : Below w.heap.size w wr
  sz : w.heap.size + 3 ≤ wr.heap.size

theorem ents_len (Pb : Nat) (l : List (Nat × Bool)) (i : Nat) : (ents Pb i l).length = l.length := by
  induction l generalizing i with
  | nil => rfl
  | cons x l ih => obtain ⟨u, b⟩ := x; simp [ents, ih]

/-- 'len(m)' -/
theorem len_run {w : World} {Pb r : Nat} {l : List (Nat × Bool)} (h : w.heap[r]? = some (tab Pb l)) : (Builtin.len_ #[41] 3 #[.map (some r)]).run Yba.prog w = .ok (.int .i64 (l.length : Nat)) w := by
  simp [Builtin.len_, run_underlying Yba.underlying41, MapKept.run_getObj_map h, ents_len, goInt]

theorem row_of_owns {w : World} {base Pb : Nat} {v : Value} {us : List Nat} (h : w.ownsRow base 50 2 v us.length (cellsOf Pb us)) : ∃ a c, v = .slice a us.length c ∧ Row Pb us a w := by
  rcases h.2 with ⟨rfl, h0⟩ | ⟨g, cap, cur, rfl, hg, hc, hnc, hcm, hcs, ht⟩
  · exact ⟨none, 0, by rw [h0], .inl (List.eq_nil_of_length_eq_zero h0)⟩
  · refine ⟨_, cap, rfl, .inr ⟨g, rfl, lt_of_blk hc, fun i hi => ?_⟩⟩
    have hget : ∀ j, j < us.length * 2 → w.cell? ⟨g, j, none⟩ = (cellsOf Pb us)[j]? := fun j hj => by
      rw [← ht]
      simp [World.cell?, hc, hj]
    exact ⟨(hget _ (by omega)).trans (cellsOf_ptr Pb us i hi), (hget _ (by omega)).trans (cellsOf_sec Pb us i hi)⟩

theorem Kept.owns {w w' : World} {S : Nat → Prop} {base : Nat} {e : TypeId} {size : Nat} {v : Value} {n : Nat} {xs : List Value} (k : Kept S w w') (h : w.ownsRow base e size v n xs) (hS : ∀ g, v.ownBlock = some g → ¬ S g) : w'.ownsRow base e size v n xs := by
  refine ⟨h.1, ?_⟩
  rcases h.2 with h0 | ⟨g, cap, cur, rfl, hg, hc, rest⟩
  · exact .inl h0
  · exact .inr ⟨g, cap, cur, rfl, hg, (k.block g (lt_of_blk hc) (hS g rfl)).trans hc, rest⟩

theorem Kept.below {w w1 w2 : World} {S : Nat → Prop} {B : Nat} (k : Kept S w1 w2) (hb : Below B w w1) (hB : B ≤ w1.heap.size) (hS : ∀ g, S g → B ≤ g) : Below B w w2 :=
  hb.trans ⟨k.os, k.tape, k.output, k.size, fun j hj => k.block j (by omega) (fun h => by have := hS j h; omega)⟩

theorem St.kept {w : World} {Pb r D : Nat} {us : List Nat} {vt vm : Value} {w1 w2 : World} (h : St w Pb r D us vt vm w1) (k : Kept (fun _ => False) w1 w2) : St w Pb r D us vt vm w2 :=
  ⟨(k.block D (lt_of_blk h.hD) (fun h => h)).trans h.hD, (k.block r (lt_of_blk h.hr) (fun h => h)).trans h.hr, k.owns h.ot (fun _ _ h => h), k.owns h.om (fun _ _ h => h), h.ap,
    k.below h.hb (by have := h.sz; omega) (fun _ h => h.elim), by have := h.sz; have := k.size; omega⟩

theorem Kept.of_below {w1 w2 : World} (h : Below w1.heap.size w1 w2) : Kept (fun _ => False) w1 w2 := ⟨h.os, h.tape, h.output, h.size, fun k hk _ => h.block k hk⟩

/-- what stands when the model has been appended to and refer is still to come -/
structure Mid (w : World) (Pb r D u : Nat) (us : List Nat) (vt vm : Value) (wr : World) : Prop where
  hD : wr.heap[D]? = some (.cells #[.map (some r), vt] 44 (0, 0))
  hr : wr.heap[r]? = some (tab Pb (marks us))
  ot : wr.ownsRow (w.heap.size + 3) 50 2 vt us.length (cellsOf Pb us)
  om : wr.ownsRow (w.heap.size + 3) 50 2 vm (us.length + 1) (cellsOf Pb (us ++ [u]))
  ap : ∀ g, vt.ownBlock = some g → vm.ownBlock ≠ some g
  hb : Below w.heap.size w wr
  sz : w.heap.size + 3 ≤ wr.heap.size

theorem after_append {w : World} {Pb r D u : Nat} {us : List Nat} {vt vm : Value} {w3 w4 : World} {o : Obj} {g cap : Nat} (h : St w Pb r D us vt vm w3) (hD : D < w.heap.size + 3) (hr : r < w.heap.size + 3)
    (hg : (w3.alloc o).grownBy w4 vm.ownBlock) (ho : w4.ownsRow (w.heap.size + 3) 50 2 (.slice (some ⟨g, 0, none⟩) (us.length + 1) cap) (us.length + 1) (cellsOf Pb us ++ [.pointer (upt Pb u), .bool (usec u)]))
    (hf : vm.ownBlock = some g ∨ (w3.alloc o).heap.size ≤ g) : Mid w Pb r D u us vt (.slice (some ⟨g, 0, none⟩) (us.length + 1) cap) w4 := by
  have hsz := h.sz
  have k : Kept (fun j => vm.ownBlock = some j) w3 w4 := ⟨hg.os, hg.tape, hg.output, by have := hg.size; simp at this; omega, fun j hj hS => (hg.block j (by simp; omega) (fun e => hS e.symm)).trans (Below.heap_alloc w3 o j hj)⟩
  have hlt : ∀ j, vm.ownBlock = some j → w.heap.size + 3 ≤ j := fun j hj => (h.om.lt j hj).1
  refine ⟨(k.block D (lt_of_blk h.hD) (fun e => by have := hlt D e; omega)).trans h.hD, (k.block r (lt_of_blk h.hr) (fun e => by have := hlt r e; omega)).trans h.hr,
    k.owns h.ot (fun j hj e => h.ap j hj e), by rw [cellsOf_append]; exact ho, fun j hj e => ?_, k.below h.hb (by omega) (fun j e => by have := hlt j e; omega), by have := k.size; omega⟩
  simp only [Value.ownBlock, Option.some.injEq] at e
  subst e
  rcases hf with h1 | h1
  · exact h.ap g hj h1
  · have := (h.ot.lt g hj).2
    simp at h1
    omega

theorem after_refer {w : World} {Pb r D u : Nat} {us : List Nat} {vt vm : Value} {w4 w5 : World} {g cap : Nat} (h : Mid w Pb r D u us vt vm w4) (hD : D < w.heap.size + 3) (hr : r < w.heap.size + 3) (hDw : w.heap.size ≤ D) (hrw : w.heap.size ≤ r)
    (hs : has us u = false) (h1 : w5.heap[D]? = some (.cells #[.map (some r), .slice (some ⟨g, 0, none⟩) (us.length + 1) cap] 44 (0, 0))) (h2 : w5.heap[r]? = some (tab Pb (upd u true (marks us))))
    (h3 : w5.ownsRow (w.heap.size + 3) 50 2 (.slice (some ⟨g, 0, none⟩) (us.length + 1) cap) (us.length + 1) (cellsOf Pb (us ++ [u]))) (h4 : vt.ownBlock = some g ∨ w4.heap.size ≤ g)
    (k : Kept (fun j => j = D ∨ j = r ∨ vt.ownBlock = some j) w4 w5) : St w Pb r D (us ++ [u]) (.slice (some ⟨g, 0, none⟩) (us.length + 1) cap) vm w5 := by
  have hsz := h.sz
  have hlen : (us ++ [u]).length = us.length + 1 := by simp
  have hlt : ∀ j, vm.ownBlock = some j → w.heap.size + 3 ≤ j ∧ j < w4.heap.size := fun j hj => h.om.lt j hj
  have hom : w5.ownsRow (w.heap.size + 3) 50 2 vm (us.length + 1) (cellsOf Pb (us ++ [u])) := k.owns h.om (fun j hj e => by
    have := hlt j hj
    rcases e with e | e | e
    · omega
    · omega
    · exact h.ap j e hj)
  refine ⟨h1, by rw [← upd_marks u us hs]; exact h2, by rw [hlen]; exact h3, by rw [hlen]; exact hom, fun j hj e => ?_, k.below h.hb (by omega) (fun j e => ?_), by have := k.size; omega⟩
  · simp only [Value.ownBlock, Option.some.injEq] at hj
    subst hj
    have := hlt g e
    rcases h4 with h4 | h4
    · exact h.ap g h4 e
    · omega
  · rcases e with e | e | e
    · omega
    · omega
    · have := (h.ot.lt j e).1; omega

theorem st0 (w : World) : St w w.heap.size (w.heap.size + 1) (w.heap.size + 1 + 1) (firsts (List.take 0 cs)) (.slice none 0 0) (.slice none 0 0)
    (((w.alloc (.cells pool0 39)).alloc (.map #[] 0)).alloc (.cells #[.map (some (w.heap.size + 1)), .slice none 0 0] 44)) := by
  have e1 : (w.alloc (.cells pool0 39)).heap.size = w.heap.size + 1 := World.size_alloc _ _
  have e2 : ((w.alloc (.cells pool0 39)).alloc (.map #[] 0)).heap.size = w.heap.size + 1 + 1 := by rw [World.size_alloc, e1]
  have b1 := (MapKept.heap_alloc (w.alloc (.cells pool0 39)) (.map #[] 0)).1
  have b2 := (MapKept.heap_alloc ((w.alloc (.cells pool0 39)).alloc (.map #[] 0)) (.cells #[.map (some (w.heap.size + 1)), .slice none 0 0] 44)).1
  rw [e1] at b1
  rw [e2] at b2
  refine ⟨b2, (Below.heap_alloc _ _ (w.heap.size + 1) (by omega)).trans b1, World.ownsRow_nil _ _ _ _, World.ownsRow_nil _ _ _ _, (fun g h => nomatch h), ?_, ?_⟩
  · exact (((Below.refl _ _).alloc (Nat.le_refl _) _).alloc (by omega) _).alloc (by omega) _
  · rw [World.size_alloc, e2]
    omega

end Go.Proofs.Ybulkckuw
