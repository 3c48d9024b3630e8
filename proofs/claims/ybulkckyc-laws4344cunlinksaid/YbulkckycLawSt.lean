import Derived.Test.YbulkckycState
namespace Go.Proofs.Ybulkckyc
open Go.RowKit
variable {w0 wx w : World} {W C G : Nat} {D : Dat}

/-- a store into one of the law's own rows -/
theorem St.setX (h : St w0 wx W C G D w) {b o t : Nat} {v : Value} (tB : tyOf w b = some t) (ht : t = 74 ∨ t = 4) (hle : w0.heap.size ≤ b) : St w0 (w.setCell ⟨b, o, none⟩ v) W C G D (w.setCell ⟨b, o, none⟩ v) := by
  have n1 : ∀ t', (t' = 66 ∨ t' = 25 ∨ t' = 37 ∨ t' = 56 ∨ t' = 114 ∨ t' = 76 ∨ t' = 121 ∨ t' = 93 ∨ t' = 113) → t' ≠ t := fun t' h1 => by omega
  refine { fW := h.fW.set_other tB (n1 _ (by decide)), fC := h.fC.set_other tB (n1 _ (by decide)), tG := (set_ty tB).trans h.tG, hG := widths_set h.hG h.tG tB (n1 _ (by decide)), fR := h.fR.set_other tB (n1 _ (by decide)), fE := h.fE.set_other tB (n1 _ (by decide)), fT := h.fT.set_other tB (n1 _ (by decide)), oL := set_owns h.oL tB (n1 _ (by decide)), oQ := set_owns h.oQ tB (n1 _ (by decide)), oC := set_owns h.oC tB (n1 _ (by decide)), hb := h.hb.setCell hle _, fr := fun _ _ => rfl, sz := by simpa using h.sz }

/-- a row of the law's own -/
def RowP (t : TypeId) (T n : Nat) (f : Nat → Value) (w : World) : Prop := tyOf w T = some t ∧ ∀ j, j < n → w.cell? ⟨T, j, none⟩ = some (f j)
theorem RowP.congr {t : TypeId} {T n : Nat} {f : Nat → Value} {w w' : World} (h : RowP t T n f w) (e : w'.heap[T]? = w.heap[T]?) : RowP t T n f w' :=
  ⟨(tyOf_congr e).trans h.1, fun j hj => (World.cell?_of_block e).trans (h.2 j hj)⟩
theorem RowP.set {t : TypeId} {T n : Nat} {f : Nat → Value} {w : World} (h : RowP t T n f w) (i : Nat) (v : Value) : RowP t T n (fun j => if j = i then v else f j) (w.setCell ⟨T, i, none⟩ v) := by
  refine ⟨(set_ty h.1).trans h.1, fun j hj => ?_⟩
  rw [set_cell (h.2 j hj)]
  show _ = some (if j = i then v else f j)
  by_cases e : j = i
  · rw [if_pos (by rw [e]), if_pos e]
  · rw [if_neg (fun x => by simp only [Addr.mk.injEq, true_and, and_true] at x; exact e x.symm), if_neg e]
theorem RowP.other {t t' : TypeId} {T n b o : Nat} {f : Nat → Value} {w : World} {v : Value} (h : RowP t T n f w) (hb : tyOf w b = some t') (hn : t ≠ t') : RowP t T n f (w.setCell ⟨b, o, none⟩ v) :=
  h.congr (set_other (tyOf_ne h.1 hb hn))
theorem RowP.of {t : TypeId} {T n : Nat} {f g : Nat → Value} {w : World} (h : RowP t T n f w) (e : ∀ j, j < n → f j = g j) : RowP t T n g w := ⟨h.1, fun j hj => by rw [← e j hj]; exact h.2 j hj⟩
theorem RowP.made {t base T n cap : Nat} {z : Value} {w : World} (ho : w.ownsRow base t 1 (.slice (some ⟨T, 0, none⟩) n cap) n (List.replicate n z)) : RowP t T n (fun _ => z) w := by
  refine ⟨own_ty ho T rfl, fun j hj => ?_⟩
  have := ho.cellAt j (by omega)
  rw [this, List.getElem?_replicate, if_pos hj]
theorem kept_grown {w w' : World} (h : w.grownBy w' none) : Kept (fun _ => False) w w' := ⟨h.os, h.tape, h.output, h.size, fun k hk _ => h.block k hk (by simp)⟩

/-- the wheel as it is made, locked -/
def wheelD (C B g cap : Nat) : Dat where
  wc := fun _ o => (wheelCells ⟨C, 0, none⟩ (.slice (some ⟨g, 0, none⟩) 15 cap) B).getD o .nilFunc
  cc := fun _ o => if o < 2 then .int .i64 0 else .nilFunc
  nl := 0
  rb := fun _ => 0
  rc := fun _ _ => .nilFunc
  nc := 0
  cb := fun _ => 0
  ec := fun _ _ => .nilFunc
  nt := 0
  tb := fun _ => 0
  tc := fun _ _ => .nilFunc
  lv := []
  qv := []
  cv := []
theorem wheel_st {w1 : World} {B C g cap : Nat} {cur : Array Value} (hC : w.heap.size ≤ C) (hB' : w.heap.size ≤ B) (hcC : w1.heap[C]? = some (.cells #[.int .i64 0, .int .i64 0] 25 (0, 0))) (hgc : w1.heap[g]? = some (.cells cur 37 (0, 0))) (hgt : cur.toList.take 45 = dvs 15)
    (hB : w1.heap[B]? = some (.cells (wheelCells ⟨C, 0, none⟩ (.slice (some ⟨g, 0, none⟩) 15 cap) B) 66 (0, 0))) (hb : Below w.heap.size w w1) : St w w1 B C g (wheelD C B g cap) w1 where
  fW := ⟨fun _ _ => tyOf_of hB, fun k k' h h' _ => by omega, fun k o _ ho => by
    simp only [World.cell?, hB, wheelD]
    have hs : (wheelCells ⟨C, 0, none⟩ (.slice (some ⟨g, 0, none⟩) 15 cap) B).size = 41 := rfl
    rw [Array.getD_eq_getD_getElem?, Array.getElem?_eq_getElem (by omega)]
    rfl, fun _ _ => hB'⟩
  fC := ⟨fun _ _ => tyOf_of hcC, fun k k' h h' _ => by omega, fun k o _ ho => by
    simp only [World.cell?, hcC, wheelD]
    rw [if_pos ho]
    have : o = 0 ∨ o = 1 := by omega
    rcases this with rfl | rfl <;> rfl, fun _ _ => hC⟩
  tG := tyOf_of hgc
  hG := widths_of hgc hgt
  fR := ⟨fun k h => absurd h (by simp [wheelD]), fun k _ h => absurd h (by simp [wheelD]), fun k _ h => absurd h (by simp [wheelD]), fun k h => absurd h (by simp [wheelD])⟩
  fE := ⟨fun k h => absurd h (by simp [wheelD]), fun k _ h => absurd h (by simp [wheelD]), fun k _ h => absurd h (by simp [wheelD]), fun k h => absurd h (by simp [wheelD])⟩
  fT := ⟨fun k h => absurd h (by simp [wheelD]), fun k _ h => absurd h (by simp [wheelD]), fun k _ h => absurd h (by simp [wheelD]), fun k h => absurd h (by simp [wheelD])⟩
  oL := World.ownsRow_nil _ _ _ _
  oQ := World.ownsRow_nil _ _ _ _
  oC := World.ownsRow_nil _ _ _ _
  hb := hb
  fr := fun _ _ => rfl
  sz := hb.size
/-- and locked -/
def lockD (C B g cap : Nat) : Dat := { wheelD C B g cap with wc := up2 (wheelD C B g cap).wc 0 13 (.int .i32 1) }
theorem lock_inv (C B g cap : Nat) : Inv C g cap (lockD C B g cap) 0 (fun _ => true) (fun _ => []) [] := by
  refine ⟨⟨rfl, fun s h => absurd h (List.not_mem_nil), fun p s h => by simp at h, fun k j h => absurd h (by simp [lockD, wheelD]), fun k j h => absurd h (by simp [lockD, wheelD]), by simp⟩, ?_, rfl, by simp [lockD, wheelD], .inl ⟨rfl, rfl⟩, by simp, by simp, fun _ => rfl, fun i h => by omega, fun s => by simp, fun k j h => absurd h (by simp [lockD, wheelD]), fun s p e h => by simp at h, fun s p q x h => by simp at h, fun s e h => by simp at h, fun i h => by omega, rfl, rfl, fun _ => ⟨rfl, rfl⟩, ⟨0, rfl⟩, by simp, ⟨0, rfl⟩⟩
  exact ⟨rfl, rfl, rfl, rfl, rfl, rfl, rfl, rfl, rfl, rfl, rfl, rfl, rfl⟩
end Go.Proofs.Ybulkckyc
