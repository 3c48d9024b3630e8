import Derived.Test.YbulkckuwState
import Derived.Test.YbulkckuwTable
namespace Go.Proofs.Ybulkckuw
open Go.RowKit

def rep (n : Nat) (l : List Value) : List Value := match n with | 0 => [] | n + 1 => l ++ rep n l
def all0 : Array Value := (rep 10 [.pointer none, .bool false]).toArray
def ref0 : Array Value := (rep 10 [.bool false]).toArray
theorem zero56 (w : World) : (zeroValue 56).run Yba.prog w = .ok (.agg all0) w := by kernel_rfl
theorem zero57 (w : World) : (zeroValue 57).run Yba.prog w = .ok (.agg ref0) w := by kernel_rfl

theorem ptr_half (Pb k h : Nat) (hk : k < 10) (hh : h = k / 2) (w : World) :
    Calls Yba.prog 5 #[.pointer (some ⟨Pb, 0, none⟩), .int .u8 h] w fun e w' => e = .returned (.pointer (upt Pb k)) ∧ w' = w := by
  have e : upt Pb k = if h % 5 = 4 then none else some ⟨Pb, h % 5 * 17, none⟩ := by
    unfold upt
    have : h % 5 = k / 2 := by omega
    rw [this]
  rw [e]
  exact ptr_walk Pb h (by omega) w

/-- the array of all uses, the first k of them laid -/
def AllTo (Pb k : Nat) (ac : Array Value) : Prop := ac.size = 20 ∧ ∀ j, j < k → ac[j * 2]? = some (.pointer (upt Pb j)) ∧ ac[j * 2 + 1]? = some (.bool (usec j))

theorem AllTo.step {Pb k : Nat} {ac : Array Value} (h : AllTo Pb k ac) (hk : k < 10) : AllTo Pb (k + 1) ((ac.setIfInBounds (k * 2) (.pointer (upt Pb k))).setIfInBounds (k * 2 + 1) (.bool (usec k))) := by
  refine ⟨by simp [h.1], fun j hj => ?_⟩
  by_cases e : j = k
  · subst e
    have h1 : j * 2 < ac.size := by rw [h.1]; omega
    have h2 : j * 2 + 1 < ac.size := by rw [h.1]; omega
    constructor
    · rw [Array.getElem?_setIfInBounds_ne (by omega)]; simp [h1]
    · simp [h2]
  · obtain ⟨h1, h2⟩ := h.2 j (by omega)
    constructor
    · rw [Array.getElem?_setIfInBounds_ne (by omega), Array.getElem?_setIfInBounds_ne (by omega)]; exact h1
    · rw [Array.getElem?_setIfInBounds_ne (by omega), Array.getElem?_setIfInBounds_ne (by omega)]; exact h2

/-- the first loop: all[k] is laid -/
structure L1 (w : World) (mc : Array Value) (k : Nat) (wr : World) : Prop where
  hM : wr.heap[w.heap.size]? = some (.cells mc 55 (0, 0))
  hA : ∃ ac, wr.heap[w.heap.size + 1 + 1]? = some (.cells ac 56 (0, 0)) ∧ AllTo (w.heap.size + 1) k ac
  hb : Below w.heap.size w wr
  sz : wr.heap.size = w.heap.size + 3

theorem l1_0 (w : World) (mc : Array Value) : L1 w mc 0 (((w.alloc (.cells mc 55)).alloc (.cells pool0 39)).alloc (.cells all0 56)) := by
  have e1 : (w.alloc (.cells mc 55)).heap.size = w.heap.size + 1 := World.size_alloc _ _
  have e2 : ((w.alloc (.cells mc 55)).alloc (.cells pool0 39)).heap.size = w.heap.size + 1 + 1 := by rw [World.size_alloc, e1]
  have b2 := (MapKept.heap_alloc ((w.alloc (.cells mc 55)).alloc (.cells pool0 39)) (.cells all0 56)).1
  rw [e2] at b2
  refine ⟨(Below.heap_alloc _ _ _ (by omega)).trans ((Below.heap_alloc _ _ _ (by omega)).trans (MapKept.heap_alloc w _).1), ⟨all0, b2, rfl, fun j hj => absurd hj (by omega)⟩, ?_, by rw [World.size_alloc, e2]⟩
  exact (((Below.refl _ _).alloc (Nat.le_refl _) _).alloc (by omega) _).alloc (by omega) _

theorem l1_step {w : World} {mc : Array Value} {k : Nat} {wr : World} (h : L1 w mc k wr) (hk : k < 10) :
    L1 w mc (k + 1) ((wr.setCell ⟨w.heap.size + 1 + 1, k * 2, none⟩ (.pointer (upt (w.heap.size + 1) k))).setCell ⟨w.heap.size + 1 + 1, k * 2 + 1, none⟩ (.bool (usec k))) := by
  obtain ⟨ac, hA, hAc⟩ := h.hA
  refine ⟨?_, ⟨_, setCell_at _ (setCell_at _ hA), hAc.step hk⟩, (h.hb.setCell (by show w.heap.size ≤ w.heap.size + 1 + 1; omega) _).setCell (by show w.heap.size ≤ w.heap.size + 1 + 1; omega) _, by simpa using h.sz⟩
  rw [Below.heap_setCell _ _ _ _ (by show w.heap.size ≠ w.heap.size + 1 + 1; omega), Below.heap_setCell _ _ _ _ (by show w.heap.size ≠ w.heap.size + 1 + 1; omega)]
  exact h.hM

/-- the second loop: the table as the marks lay it -/
structure L2 (w : World) (mc ac : Array Value) (l : List (Nat × Bool)) (wr : World) : Prop where
  hM : wr.heap[w.heap.size]? = some (.cells mc 55 (0, 0))
  hA : wr.heap[w.heap.size + 1 + 1]? = some (.cells ac 56 (0, 0))
  hr : wr.heap[w.heap.size + 3]? = some (tab (w.heap.size + 1) l)
  hD : wr.heap[w.heap.size + 3 + 1]? = some (.cells #[.map (some (w.heap.size + 3)), .slice none 0 0] 44 (0, 0))
  hb : Below w.heap.size w wr
  sz : wr.heap.size = w.heap.size + 5

theorem l2_0 {w : World} {mc ac : Array Value} {k : Nat} {wr : World} (h : L1 w mc k wr) (hA : wr.heap[w.heap.size + 1 + 1]? = some (.cells ac 56 (0, 0))) :
    L2 w mc ac [] ((wr.alloc (.map #[] 0)).alloc (.cells #[.map (some (w.heap.size + 3)), .slice none 0 0] 44)) := by
  have hs := h.sz
  have e1 : (wr.alloc (.map #[] 0)).heap.size = w.heap.size + 3 + 1 := by rw [World.size_alloc, hs]
  have b1 := (MapKept.heap_alloc wr (.map #[] 0)).1
  have b2 := (MapKept.heap_alloc (wr.alloc (.map #[] 0)) (.cells #[.map (some (w.heap.size + 3)), .slice none 0 0] 44)).1
  rw [e1] at b2
  rw [hs] at b1
  refine ⟨(Below.heap_alloc _ _ _ (by omega)).trans ((Below.heap_alloc _ _ _ (by omega)).trans h.hM), (Below.heap_alloc _ _ _ (by omega)).trans ((Below.heap_alloc _ _ _ (by omega)).trans hA),
    (Below.heap_alloc _ _ _ (by omega)).trans b1, b2, ?_, by rw [World.size_alloc, e1]⟩
  exact (h.hb.alloc (by omega) _).alloc (by omega) _

theorem l2_put {w : World} {mc ac : Array Value} {l : List (Nat × Bool)} {wr : World} (h : L2 w mc ac l wr) (l' : List (Nat × Bool)) : L2 w mc ac l' (putO wr.drew (w.heap.size + 3) (tab (w.heap.size + 1) l')) := by
  have hs := h.sz
  exact ⟨(putO_other (by omega)).trans h.hM, (putO_other (by omega)).trans h.hA, putO_at (by show _ < wr.heap.size; omega), (putO_other (by omega)).trans h.hD,
    h.hb.trans ⟨rfl, rfl, rfl, by simp [putO], fun k hk => putO_other (by omega)⟩, by simp [putO, hs]⟩

/-- the array of the referred -/
def RefIs (rf : Nat → Bool) (rc : Array Value) : Prop := rc.size = 10 ∧ ∀ j, j < 10 → rc[j]? = some (.bool (rf j))

theorem ref_0 : RefIs (fun _ => false) ref0 := ⟨rfl, fun j hj => by
  have : j = 0 ∨ j = 1 ∨ j = 2 ∨ j = 3 ∨ j = 4 ∨ j = 5 ∨ j = 6 ∨ j = 7 ∨ j = 8 ∨ j = 9 := by omega
  rcases this with rfl | rfl | rfl | rfl | rfl | rfl | rfl | rfl | rfl | rfl <;> rfl⟩

theorem RefIs.step {rf : Nat → Bool} {rc : Array Value} (h : RefIs rf rc) (c : Nat) (hc : c < 10) : RefIs (touch rf c) (rc.setIfInBounds c (.bool true)) := by
  refine ⟨by simp [h.1], fun j hj => ?_⟩
  unfold touch
  by_cases e : j = c
  · subst e
    have : j < rc.size := by rw [h.1]; omega
    simp [this]
  · rw [Array.getElem?_setIfInBounds_ne (fun x => e x.symm), h.2 j hj]
    simp [e]

/-- the third loop -/
structure L3 (w : World) (mc ac : Array Value) (ms : Nat → Nat) (rf : Nat → Bool) (us : List Nat) (l : List (Nat × Bool)) (vt vm : Value) (wr : World) : Prop where
  hM : wr.heap[w.heap.size]? = some (.cells mc 55 (0, 0))
  hA : wr.heap[w.heap.size + 1 + 1]? = some (.cells ac 56 (0, 0))
  hR : ∃ rc, wr.heap[w.heap.size + 5]? = some (.cells rc 57 (0, 0)) ∧ RefIs rf rc
  hr : wr.heap[w.heap.size + 3]? = some (tab (w.heap.size + 1) l)
  hD : wr.heap[w.heap.size + 3 + 1]? = some (.cells #[.map (some (w.heap.size + 3)), vt] 44 (0, 0))
  ot : wr.ownsRow (w.heap.size + 6) 50 2 vt us.length (cellsOf (w.heap.size + 1) us)
  om : wr.ownsRow (w.heap.size + 6) 50 2 vm us.length (cellsOf (w.heap.size + 1) us)
  ap : ∀ g, vt.ownBlock = some g → vm.ownBlock ≠ some g
  hb : Below w.heap.size w wr
  sz : w.heap.size + 6 ≤ wr.heap.size
  gd : Good ms rf l
  ft : Fit ms rf us

theorem l3_0 {w : World} {mc ac : Array Value} {ms : Nat → Nat} {wr : World} (h : L2 w mc ac (pre ms 10) wr) : L3 w mc ac ms (fun _ => false) [] (pre ms 10) (.slice none 0 0) (.slice none 0 0) (wr.alloc (.cells ref0 57)) := by
  have hs := h.sz
  have b1 := (MapKept.heap_alloc wr (.cells ref0 57)).1
  rw [hs] at b1
  exact ⟨(Below.heap_alloc _ _ _ (by omega)).trans h.hM, (Below.heap_alloc _ _ _ (by omega)).trans h.hA, ⟨ref0, b1, ref_0⟩, (Below.heap_alloc _ _ _ (by omega)).trans h.hr, (Below.heap_alloc _ _ _ (by omega)).trans h.hD,
    World.ownsRow_nil _ _ _ _, World.ownsRow_nil _ _ _ _, (fun g h => nomatch h), h.hb.alloc (by omega) _, by rw [World.size_alloc, hs]; omega, good0 ms, fun k _ => by simp [has]⟩

theorem L3.kept {w : World} {mc ac : Array Value} {ms : Nat → Nat} {rf : Nat → Bool} {us : List Nat} {l : List (Nat × Bool)} {vt vm : Value} {w1 w2 : World} (h : L3 w mc ac ms rf us l vt vm w1) (k : Kept (fun _ => False) w1 w2) : L3 w mc ac ms rf us l vt vm w2 := by
  obtain ⟨rc, hR, hRi⟩ := h.hR
  have hs := h.sz
  have bl : ∀ j, j < w.heap.size + 6 → w2.heap[j]? = w1.heap[j]? := fun j hj => k.block j (by omega) (fun h => h)
  exact ⟨(bl _ (by omega)).trans h.hM, (bl _ (by omega)).trans h.hA, ⟨rc, (bl _ (by omega)).trans hR, hRi⟩, (bl _ (by omega)).trans h.hr, (bl _ (by omega)).trans h.hD, k.owns h.ot (fun _ _ h => h), k.owns h.om (fun _ _ h => h), h.ap,
    k.below h.hb (by omega) (fun _ h => h.elim), by have := k.size; omega, h.gd, h.ft⟩

/-- the store 'referred[c] = true' -/
theorem L3.refd {w : World} {mc ac : Array Value} {ms : Nat → Nat} {rf : Nat → Bool} {us : List Nat} {l : List (Nat × Bool)} {vt vm : Value} {w1 : World} (h : L3 w mc ac ms rf us l vt vm w1) (c : Nat) (hc : c < 10) :
    (∃ rc, (w1.setCell ⟨w.heap.size + 5, c, none⟩ (.bool true)).heap[w.heap.size + 5]? = some (.cells rc 57 (0, 0)) ∧ RefIs (touch rf c) rc) ∧ Kept (fun j => j = w.heap.size + 5) w1 (w1.setCell ⟨w.heap.size + 5, c, none⟩ (.bool true)) := by
  obtain ⟨rc, hR, hRi⟩ := h.hR
  exact ⟨⟨_, setCell_at _ hR, hRi.step c hc⟩, ⟨rfl, rfl, rfl, by simp, fun k _ hk => Below.heap_setCell _ _ _ _ (by exact hk)⟩⟩

/-- in the midst of a round: c is touched, the queues and the table are still as they were -/
structure M3 (w : World) (mc ac : Array Value) (ms : Nat → Nat) (rf : Nat → Bool) (us : List Nat) (l : List (Nat × Bool)) (vt vm : Value) (c : Nat) (wr : World) : Prop where
  hM : wr.heap[w.heap.size]? = some (.cells mc 55 (0, 0))
  hA : wr.heap[w.heap.size + 1 + 1]? = some (.cells ac 56 (0, 0))
  hR : ∃ rc, wr.heap[w.heap.size + 5]? = some (.cells rc 57 (0, 0)) ∧ RefIs (touch rf c) rc
  hr : wr.heap[w.heap.size + 3]? = some (tab (w.heap.size + 1) l)
  hD : wr.heap[w.heap.size + 3 + 1]? = some (.cells #[.map (some (w.heap.size + 3)), vt] 44 (0, 0))
  ot : wr.ownsRow (w.heap.size + 6) 50 2 vt us.length (cellsOf (w.heap.size + 1) us)
  om : wr.ownsRow (w.heap.size + 6) 50 2 vm us.length (cellsOf (w.heap.size + 1) us)
  ap : ∀ g, vt.ownBlock = some g → vm.ownBlock ≠ some g
  hb : Below w.heap.size w wr
  sz : w.heap.size + 6 ≤ wr.heap.size

theorem L3.mid {w : World} {mc ac : Array Value} {ms : Nat → Nat} {rf : Nat → Bool} {us : List Nat} {l : List (Nat × Bool)} {vt vm : Value} {w1 w2 : World} (h : L3 w mc ac ms rf us l vt vm w1) (c : Nat)
    (hR : ∃ rc, w2.heap[w.heap.size + 5]? = some (.cells rc 57 (0, 0)) ∧ RefIs (touch rf c) rc) (k : Kept (fun j => j = w.heap.size + 5) w1 w2) : M3 w mc ac ms rf us l vt vm c w2 := by
  have hs := h.sz
  have bl : ∀ j, j < w.heap.size + 5 → w2.heap[j]? = w1.heap[j]? := fun j hj => k.block j (by omega) (fun h => by omega)
  exact ⟨(bl _ (by omega)).trans h.hM, (bl _ (by omega)).trans h.hA, hR, (bl _ (by omega)).trans h.hr, (bl _ (by omega)).trans h.hD, k.owns h.ot (fun g hg e => by have := (h.ot.lt g hg).1; omega), k.owns h.om (fun g hg e => by have := (h.om.lt g hg).1; omega), h.ap,
    k.below h.hb (by omega) (fun j e => by omega), by have := k.size; omega⟩

theorem M3.kept {w : World} {mc ac : Array Value} {ms : Nat → Nat} {rf : Nat → Bool} {us : List Nat} {l : List (Nat × Bool)} {vt vm : Value} {c : Nat} {w1 w2 : World} (h : M3 w mc ac ms rf us l vt vm c w1) (k : Kept (fun _ => False) w1 w2) : M3 w mc ac ms rf us l vt vm c w2 := by
  obtain ⟨rc, hR, hRi⟩ := h.hR
  have hs := h.sz
  have bl : ∀ j, j < w.heap.size + 6 → w2.heap[j]? = w1.heap[j]? := fun j hj => k.block j (by omega) (fun h => h)
  exact ⟨(bl _ (by omega)).trans h.hM, (bl _ (by omega)).trans h.hA, ⟨rc, (bl _ (by omega)).trans hR, hRi⟩, (bl _ (by omega)).trans h.hr, (bl _ (by omega)).trans h.hD, k.owns h.ot (fun _ _ h => h), k.owns h.om (fun _ _ h => h), h.ap,
    k.below h.hb (by omega) (fun _ h => h.elim), by have := k.size; omega⟩

/-- the round's end where nothing is queued -/
theorem M3.seen {w : World} {mc ac : Array Value} {ms : Nat → Nat} {rf : Nat → Bool} {us : List Nat} {l : List (Nat × Bool)} {vt vm : Value} {c : Nat} {w1 : World} (h : M3 w mc ac ms rf us l vt vm c w1) (hc : c < 10) (gd : Good ms rf l) (ft : Fit ms rf us)
    (hs : (m2 ms c || has us c) = true) : L3 w mc ac ms (touch rf c) (addP ms us c) l vt vm w1 := by
  have hf := fit_step ft c hc
  rw [addP_seen hs] at hf ⊢
  exact ⟨h.hM, h.hA, h.hR, h.hr, h.hD, h.ot, h.om, h.ap, h.hb, h.sz, good_seen gd c hc (by rw [val_fit gd ft c hc, hs]), hf⟩

/-- the model has been appended to -/
structure N3 (w : World) (mc ac : Array Value) (ms : Nat → Nat) (rf : Nat → Bool) (us : List Nat) (l : List (Nat × Bool)) (vt vm : Value) (c : Nat) (wr : World) : Prop where
  hM : wr.heap[w.heap.size]? = some (.cells mc 55 (0, 0))
  hA : wr.heap[w.heap.size + 1 + 1]? = some (.cells ac 56 (0, 0))
  hR : ∃ rc, wr.heap[w.heap.size + 5]? = some (.cells rc 57 (0, 0)) ∧ RefIs (touch rf c) rc
  hr : wr.heap[w.heap.size + 3]? = some (tab (w.heap.size + 1) l)
  hD : wr.heap[w.heap.size + 3 + 1]? = some (.cells #[.map (some (w.heap.size + 3)), vt] 44 (0, 0))
  ot : wr.ownsRow (w.heap.size + 6) 50 2 vt us.length (cellsOf (w.heap.size + 1) us)
  om : wr.ownsRow (w.heap.size + 6) 50 2 vm (us.length + 1) (cellsOf (w.heap.size + 1) (us ++ [c]))
  ap : ∀ g, vt.ownBlock = some g → vm.ownBlock ≠ some g
  hb : Below w.heap.size w wr
  sz : w.heap.size + 6 ≤ wr.heap.size

theorem M3.append {w : World} {mc ac : Array Value} {ms : Nat → Nat} {rf : Nat → Bool} {us : List Nat} {l : List (Nat × Bool)} {vt vm : Value} {c : Nat} {w3 w4 : World} {o : Obj} {g cap : Nat} (h : M3 w mc ac ms rf us l vt vm c w3)
    (hg : (w3.alloc o).grownBy w4 vm.ownBlock) (ho : w4.ownsRow (w.heap.size + 6) 50 2 (.slice (some ⟨g, 0, none⟩) (us.length + 1) cap) (us.length + 1) (cellsOf (w.heap.size + 1) us ++ [.pointer (upt (w.heap.size + 1) c), .bool (usec c)]))
    (hf : vm.ownBlock = some g ∨ (w3.alloc o).heap.size ≤ g) : N3 w mc ac ms rf us l vt (.slice (some ⟨g, 0, none⟩) (us.length + 1) cap) c w4 := by
  obtain ⟨rc, hR, hRi⟩ := h.hR
  have hs := h.sz
  have hlt : ∀ j, vm.ownBlock = some j → w.heap.size + 6 ≤ j := fun j hj => (h.om.lt j hj).1
  have k : Kept (fun j => vm.ownBlock = some j) w3 w4 := ⟨hg.os, hg.tape, hg.output, by have := hg.size; simp at this; omega, fun j hj hS => (hg.block j (by simp; omega) (fun e => hS e.symm)).trans (Below.heap_alloc w3 o j hj)⟩
  have bl : ∀ j, j < w.heap.size + 6 → w4.heap[j]? = w3.heap[j]? := fun j hj => k.block j (by omega) (fun h => by have := hlt j h; omega)
  refine ⟨(bl _ (by omega)).trans h.hM, (bl _ (by omega)).trans h.hA, ⟨rc, (bl _ (by omega)).trans hR, hRi⟩, (bl _ (by omega)).trans h.hr, (bl _ (by omega)).trans h.hD, k.owns h.ot (fun j hj e => h.ap j hj e), by rw [cellsOf_append]; exact ho, fun j hj e => ?_,
    k.below h.hb (by omega) (fun j e => by have := hlt j e; omega), by have := k.size; omega⟩
  simp only [Value.ownBlock, Option.some.injEq] at e
  subst e
  rcases hf with h1 | h1
  · exact h.ap g hj h1
  · have := (h.ot.lt g hj).2
    simp at h1
    omega

theorem N3.refer {w : World} {mc ac : Array Value} {ms : Nat → Nat} {rf : Nat → Bool} {us : List Nat} {l : List (Nat × Bool)} {vt vm : Value} {c : Nat} {w4 w5 : World} {g cap : Nat} (h : N3 w mc ac ms rf us l vt vm c w4) (hc : c < 10) (gd : Good ms rf l) (ft : Fit ms rf us)
    (hs : (m2 ms c || has us c) = false) (h1 : w5.heap[w.heap.size + 3 + 1]? = some (.cells #[.map (some (w.heap.size + 3)), .slice (some ⟨g, 0, none⟩) (us.length + 1) cap] 44 (0, 0))) (h2 : w5.heap[w.heap.size + 3]? = some (tab (w.heap.size + 1) (upd c true l)))
    (h3 : w5.ownsRow (w.heap.size + 6) 50 2 (.slice (some ⟨g, 0, none⟩) (us.length + 1) cap) (us.length + 1) (cellsOf (w.heap.size + 1) (us ++ [c]))) (h4 : vt.ownBlock = some g ∨ w4.heap.size ≤ g)
    (k : Kept (fun j => j = w.heap.size + 3 + 1 ∨ j = w.heap.size + 3 ∨ vt.ownBlock = some j) w4 w5) : L3 w mc ac ms (touch rf c) (addP ms us c) (upd c true l) (.slice (some ⟨g, 0, none⟩) (us.length + 1) cap) vm w5 := by
  have hf := fit_step ft c hc
  rw [addP_new hs] at hf ⊢
  obtain ⟨rc, hR, hRi⟩ := h.hR
  have hsz := h.sz
  have hlen : (us ++ [c]).length = us.length + 1 := by simp
  have hlt : ∀ j, vm.ownBlock = some j → w.heap.size + 6 ≤ j ∧ j < w4.heap.size := fun j hj => h.om.lt j hj
  have htl : ∀ j, vt.ownBlock = some j → w.heap.size + 6 ≤ j := fun j hj => (h.ot.lt j hj).1
  have bl : ∀ j, j < w.heap.size + 6 → j ≠ w.heap.size + 3 + 1 → j ≠ w.heap.size + 3 → w5.heap[j]? = w4.heap[j]? := fun j hj n1 n2 => k.block j (by omega) (fun h => by
    rcases h with h | h | h
    · exact n1 h
    · exact n2 h
    · have := htl j h; omega)
  have hom : w5.ownsRow (w.heap.size + 6) 50 2 vm (us.length + 1) (cellsOf (w.heap.size + 1) (us ++ [c])) := k.owns h.om (fun j hj e => by
    have := hlt j hj
    rcases e with e | e | e
    · omega
    · omega
    · exact h.ap j e hj)
  refine ⟨(bl _ (by omega) (by omega) (by omega)).trans h.hM, (bl _ (by omega) (by omega) (by omega)).trans h.hA, ⟨rc, (bl _ (by omega) (by omega) (by omega)).trans hR, hRi⟩, h2, h1, by rw [hlen]; exact h3, by rw [hlen]; exact hom, fun j hj e => ?_,
    k.below h.hb (by omega) (fun j e => ?_), by have := k.size; omega, good_new gd c hc (by rw [val_fit gd ft c hc, hs]), hf⟩
  · simp only [Value.ownBlock, Option.some.injEq] at hj
    subst hj
    have := hlt g e
    rcases h4 with h4 | h4
    · exact h.ap g h4 e
    · omega
  · rcases e with e | e | e
    · omega
    · omega
    · have := htl j e; omega

end Go.Proofs.Ybulkckuw
