import Derived.Test.YbulkckssRows
import Derived.WalkKit
import Derived.Laws.OwnMore
import Derived.Deep.RegionWith
import Derived.Deep.DeepCutAuto
import Derived.Deep.RegionHeld3
import Derived.ProofKit
import Derived.Below
namespace Go.Proofs.Ybulkckss
open Go.RowKit

/-- the element type of a block of cells, none of them frozen -/
def tyOf (w : World) (b : Nat) : Option TypeId :=
  match w.heap[b]? with
  | some (.cells _ t m) => if m = (0, 0) then some t else none
  | _ => none

theorem tyOf_blk {w : World} {b : Nat} {t : TypeId} (h : tyOf w b = some t) : ∃ cs, w.heap[b]? = some (.cells cs t (0, 0)) := by
  unfold tyOf at h
  split at h
  · rename_i cs t' m hb
    split at h
    · rename_i hm; subst hm; simp at h; subst h; exact ⟨cs, hb⟩
    · cases h
  · cases h
theorem tyOf_of {w : World} {b : Nat} {t : TypeId} {cs : Array Value} (h : w.heap[b]? = some (.cells cs t (0, 0))) : tyOf w b = some t := by
  simp [tyOf, h]
theorem tyOf_lt {w : World} {b : Nat} {t : TypeId} (h : tyOf w b = some t) : b < w.heap.size := by
  obtain ⟨cs, hb⟩ := tyOf_blk h
  refine Nat.lt_of_not_le fun hge => ?_
  rw [Array.getElem?_eq_none hge] at hb; cases hb
theorem tyOf_ne {w : World} {b b' : Nat} {t t' : TypeId} (h : tyOf w b = some t) (h' : tyOf w b' = some t') (hn : t ≠ t') : b ≠ b' := fun e => by
  subst e; rw [h] at h'; exact hn (Option.some.inj h')
theorem tyOf_frozen {w : World} {b : Nat} {t : TypeId} (h : tyOf w b = some t) (o : Nat) : w.frozen? ⟨b, o, none⟩ = false := by
  obtain ⟨cs, hb⟩ := tyOf_blk h
  simp [World.frozen?, hb]
theorem tyOf_congr {w w' : World} {b : Nat} (h : w'.heap[b]? = w.heap[b]?) : tyOf w' b = tyOf w b := by simp [tyOf, h]

theorem set_other {w : World} {b o k : Nat} {v : Value} (h : k ≠ b) : (w.setCell ⟨b, o, none⟩ v).heap[k]? = w.heap[k]? := Below.heap_setCell w _ v k h
theorem set_ty {w : World} {b o k : Nat} {v : Value} {t : TypeId} (hb : tyOf w b = some t) : tyOf (w.setCell ⟨b, o, none⟩ v) k = tyOf w k := by
  by_cases e : k = b
  · subst e
    obtain ⟨cs, hc⟩ := tyOf_blk hb
    have : (w.setCell ⟨k, o, none⟩ v).heap[k]? = some (.cells (cs.setIfInBounds o v) t (0, 0)) := by simp [World.setCell, Array.getElem?_modify, hc]
    rw [tyOf_of this, hb]
  · exact tyOf_congr (set_other e)
/-- a cell behind a store -/
theorem set_cell {w : World} {a b : Addr} {v u : Value} (h : w.cell? b = some u) : (w.setCell a v).cell? b = some (if a = b then v else u) := by
  by_cases e : a = b
  · subst e; rw [if_pos rfl]; exact World.cell?_setCell_same w a v h
  · rw [if_neg e]; exact (World.cell?_setCell_other w a b v e).trans h
theorem set_cell_ne {w : World} {b o k p : Nat} {v : Value} (h : k ≠ b) : (w.setCell ⟨b, o, none⟩ v).cell? ⟨k, p, none⟩ = w.cell? ⟨k, p, none⟩ := World.cell?_of_block (set_other h)
theorem set_owns {w : World} {base b o : Nat} {x v : Value} {e : TypeId} {size n : Nat} {xs : List Value} {t : TypeId} (h : w.ownsRow base e size v n xs) (hb : tyOf w b = some t) (hn : e ≠ t) : (w.setCell ⟨b, o, none⟩ x).ownsRow base e size v n xs := by
  refine ⟨h.1, ?_⟩
  rcases h.2 with h0 | ⟨g, cap, cur, rfl, hg, hc, rest⟩
  · exact .inl h0
  · exact .inr ⟨g, cap, cur, rfl, hg, (set_other (tyOf_ne (tyOf_of hc) hb hn)).trans hc, rest⟩

/-- everything but the blocks of S is as it was -/
structure Kept (S : Nat → Prop) (w w' : World) : Prop where
  os : w'.os = w.os
  tape : w'.tape = w.tape
  output : w'.output = w.output
  size : w.heap.size ≤ w'.heap.size
  block : ∀ k, k < w.heap.size → ¬ S k → w'.heap[k]? = w.heap[k]?

theorem Kept.of_below {w1 w2 : World} (h : Below w1.heap.size w1 w2) : Kept (fun _ => False) w1 w2 := ⟨h.os, h.tape, h.output, h.size, fun k hk _ => h.block k hk⟩
theorem Kept.below {w w1 w2 : World} {S : Nat → Prop} {B : Nat} (k : Kept S w1 w2) (hb : Below B w w1) (hB : B ≤ w1.heap.size) (hS : ∀ g, S g → B ≤ g) : Below B w w2 :=
  hb.trans ⟨k.os, k.tape, k.output, k.size, fun j hj => k.block j (by omega) (fun h => by have := hS j h; omega)⟩
theorem Kept.owns {w w' : World} {S : Nat → Prop} {base : Nat} {e : TypeId} {size : Nat} {v : Value} {n : Nat} {xs : List Value} (k : Kept S w w') (h : w.ownsRow base e size v n xs) (hS : ∀ g, v.ownBlock = some g → ¬ S g) : w'.ownsRow base e size v n xs := by
  refine ⟨h.1, ?_⟩
  rcases h.2 with h0 | ⟨g, cap, cur, rfl, hg, hc, rest⟩
  · exact .inl h0
  · exact .inr ⟨g, cap, cur, rfl, hg, (k.block g (tyOf_lt (tyOf_of hc)) (hS g rfl)).trans hc, rest⟩
theorem own_ty {w : World} {base : Nat} {e : TypeId} {size : Nat} {v : Value} {n : Nat} {xs : List Value} (h : w.ownsRow base e size v n xs) (g : Nat) (hg : v.ownBlock = some g) : tyOf w g = some e := by
  rcases h.2 with ⟨rfl, _⟩ | ⟨g', cap, cur, rfl, _, hc, _⟩
  · cases hg
  · simp only [Value.ownBlock, Option.some.injEq] at hg; subst hg; exact tyOf_of hc


theorem Kept.refl (S : Nat → Prop) (w : World) : Kept S w w := ⟨rfl, rfl, rfl, Nat.le_refl _, fun _ _ _ => rfl⟩
theorem Kept.trans {S : Nat → Prop} {w1 w2 w3 : World} (h : Kept S w1 w2) (h' : Kept S w2 w3) : Kept S w1 w3 :=
  ⟨h'.os.trans h.os, h'.tape.trans h.tape, h'.output.trans h.output, Nat.le_trans h.size h'.size, fun k hk hS => (h'.block k (Nat.lt_of_lt_of_le hk h.size) hS).trans (h.block k hk hS)⟩
theorem Kept.weak {S S' : Nat → Prop} {w1 w2 : World} (h : Kept S w1 w2) (hs : ∀ k, S k → S' k) : Kept S' w1 w2 :=
  ⟨h.os, h.tape, h.output, h.size, fun k hk hS => h.block k hk (fun x => hS (hs k x))⟩
theorem Kept.new {S : Nat → Prop} {w1 w2 : World} (h : Below w1.heap.size w1 w2) : Kept S w1 w2 := (Kept.of_below h).weak (fun _ x => x.elim)
theorem Kept.setCell {S : Nat → Prop} {w1 w2 : World} (h : Kept S w1 w2) {b o : Nat} (hb : S b) (v : Value) : Kept S w1 (w2.setCell ⟨b, o, none⟩ v) :=
  ⟨h.os, h.tape, h.output, by simpa using h.size, fun k hk hS => (set_other (fun e => hS (by rw [e]; exact hb))).trans (h.block k hk hS)⟩
theorem kept_grown {w w' : World} {S : Nat → Prop} (h : w.grownBy w' none) : Kept S w w' := ⟨h.os, h.tape, h.output, h.size, fun k hk _ => h.block k hk (by simp)⟩
variable {w w' : World}
/-- the cells of a row -/
theorem row_at {base e n : Nat} {v : Value} {xs : List Value} (h : w.ownsRow base e 1 v n xs) (hn : 0 < n) : ∃ g cap, v = .slice (some ⟨g, 0, none⟩) n cap ∧ tyOf w g = some e ∧ base ≤ g ∧ n ≤ cap ∧ cap ≤ maxLen ∧ (∀ j, j < n → w.cell? ⟨g, j, none⟩ = xs[j]?) := by
  rcases h.2 with ⟨_, h0⟩ | ⟨g, cap, cur, rfl, hg, hc, hnc, hm, _⟩
  · omega
  · exact ⟨g, cap, rfl, tyOf_of hc, hg, hnc, hm, fun j hj => h.cellAt j (by omega)⟩
theorem row_cut {base e n cap g m : Nat} {xs : List Value} (h : w.ownsRow base e 1 (.slice (some ⟨g, 0, none⟩) n cap) n xs) (hm : m ≤ n) : w.ownsRow base e 1 (.slice (some ⟨g, 0, none⟩) m cap) m (xs.take m) := by
  obtain ⟨h1, h2⟩ := h
  refine ⟨by simp at h1 ⊢; omega, .inr ?_⟩
  rcases h2 with ⟨h0, _⟩ | ⟨g', cap', cur, e1, hg, hc, hnc, hcm, hcs, ht⟩
  · cases h0
  · simp only [Value.slice.injEq, Option.some.injEq, Addr.mk.injEq] at e1
    obtain ⟨⟨rfl, _⟩, _, rfl⟩ := e1
    refine ⟨g, cap, cur, rfl, hg, hc, by omega, hcm, hcs, ?_⟩
    rw [← ht, List.take_take]
    congr 1
    omega

end Go.Proofs.Ybulkckss
