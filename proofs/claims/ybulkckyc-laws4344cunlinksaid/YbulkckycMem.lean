import Derived.Test.YbulkckycQuo
import Derived.Laws.OwnMore
namespace Go.Proofs.Ybulkckyc
open Go.RowKit

/-- the element type of a block of cells, none of them frozen -/
def tyOf (w : World) (b : Nat) : Option TypeId :=
  match w.heap[b]? with
  | some (.cells _ t m) => if m = (0, 0) then some t else none
  | _ => none

theorem tyOf_blk {w : World} {b : Nat} {t : TypeId} (h : tyOf w b = some t) : ∃ cs, w.heap[b]? = some (.cells cs t (0, 0)) := by
  unfold tyOf at h
  split at h
  · rename_i cs t' m hb
    split at h
    · rename_i hm; subst hm; simp at h; subst h; exact ⟨cs, hb⟩
    · cases h
  · cases h
theorem tyOf_of {w : World} {b : Nat} {t : TypeId} {cs : Array Value} (h : w.heap[b]? = some (.cells cs t (0, 0))) : tyOf w b = some t := by
  simp [tyOf, h]
theorem tyOf_lt {w : World} {b : Nat} {t : TypeId} (h : tyOf w b = some t) : b < w.heap.size := by
  obtain ⟨cs, hb⟩ := tyOf_blk h
  refine Nat.lt_of_not_le fun hge => ?_
  rw [Array.getElem?_eq_none hge] at hb; cases hb
theorem tyOf_ne {w : World} {b b' : Nat} {t t' : TypeId} (h : tyOf w b = some t) (h' : tyOf w b' = some t') (hn : t ≠ t') : b ≠ b' := fun e => by
  subst e; rw [h] at h'; exact hn (Option.some.inj h')
theorem tyOf_frozen {w : World} {b : Nat} {t : TypeId} (h : tyOf w b = some t) (o : Nat) : w.frozen? ⟨b, o, none⟩ = false := by
  obtain ⟨cs, hb⟩ := tyOf_blk h
  simp [World.frozen?, hb]
theorem tyOf_congr {w w' : World} {b : Nat} (h : w'.heap[b]? = w.heap[b]?) : tyOf w' b = tyOf w b := by simp [tyOf, h]

theorem set_other {w : World} {b o k : Nat} {v : Value} (h : k ≠ b) : (w.setCell ⟨b, o, none⟩ v).heap[k]? = w.heap[k]? := Below.heap_setCell w _ v k h
theorem set_ty {w : World} {b o k : Nat} {v : Value} {t : TypeId} (hb : tyOf w b = some t) : tyOf (w.setCell ⟨b, o, none⟩ v) k = tyOf w k := by
  by_cases e : k = b
  · subst e
    obtain ⟨cs, hc⟩ := tyOf_blk hb
    have : (w.setCell ⟨k, o, none⟩ v).heap[k]? = some (.cells (cs.setIfInBounds o v) t (0, 0)) := by simp [World.setCell, Array.getElem?_modify, hc]
    rw [tyOf_of this, hb]
  · exact tyOf_congr (set_other e)
/-- a cell behind a store -/
theorem set_cell {w : World} {a b : Addr} {v u : Value} (h : w.cell? b = some u) : (w.setCell a v).cell? b = some (if a = b then v else u) := by
  by_cases e : a = b
  · subst e; rw [if_pos rfl]; exact World.cell?_setCell_same w a v h
  · rw [if_neg e]; exact (World.cell?_setCell_other w a b v e).trans h
theorem set_cell_ne {w : World} {b o k p : Nat} {v : Value} (h : k ≠ b) : (w.setCell ⟨b, o, none⟩ v).cell? ⟨k, p, none⟩ = w.cell? ⟨k, p, none⟩ := World.cell?_of_block (set_other h)
theorem set_owns {w : World} {base b o : Nat} {x v : Value} {e : TypeId} {size n : Nat} {xs : List Value} {t : TypeId} (h : w.ownsRow base e size v n xs) (hb : tyOf w b = some t) (hn : e ≠ t) : (w.setCell ⟨b, o, none⟩ x).ownsRow base e size v n xs := by
  refine ⟨h.1, ?_⟩
  rcases h.2 with h0 | ⟨g, cap, cur, rfl, hg, hc, rest⟩
  · exact .inl h0
  · exact .inr ⟨g, cap, cur, rfl, hg, (set_other (tyOf_ne (tyOf_of hc) hb hn)).trans hc, rest⟩

/-- everything but the blocks of S is as it was -/
structure Kept (S : Nat → Prop) (w w' : World) : Prop where
  os : w'.os = w.os
  tape : w'.tape = w.tape
  output : w'.output = w.output
  size : w.heap.size ≤ w'.heap.size
  block : ∀ k, k < w.heap.size → ¬ S k → w'.heap[k]? = w.heap[k]?

theorem Kept.of_below {w1 w2 : World} (h : Below w1.heap.size w1 w2) : Kept (fun _ => False) w1 w2 := ⟨h.os, h.tape, h.output, h.size, fun k hk _ => h.block k hk⟩
theorem Kept.below {w w1 w2 : World} {S : Nat → Prop} {B : Nat} (k : Kept S w1 w2) (hb : Below B w w1) (hB : B ≤ w1.heap.size) (hS : ∀ g, S g → B ≤ g) : Below B w w2 :=
  hb.trans ⟨k.os, k.tape, k.output, k.size, fun j hj => k.block j (by omega) (fun h => by have := hS j h; omega)⟩
theorem Kept.owns {w w' : World} {S : Nat → Prop} {base : Nat} {e : TypeId} {size : Nat} {v : Value} {n : Nat} {xs : List Value} (k : Kept S w w') (h : w.ownsRow base e size v n xs) (hS : ∀ g, v.ownBlock = some g → ¬ S g) : w'.ownsRow base e size v n xs := by
  refine ⟨h.1, ?_⟩
  rcases h.2 with h0 | ⟨g, cap, cur, rfl, hg, hc, rest⟩
  · exact .inl h0
  · exact .inr ⟨g, cap, cur, rfl, hg, (k.block g (tyOf_lt (tyOf_of hc)) (hS g rfl)).trans hc, rest⟩
theorem own_ty {w : World} {base : Nat} {e : TypeId} {size : Nat} {v : Value} {n : Nat} {xs : List Value} (h : w.ownsRow base e size v n xs) (g : Nat) (hg : v.ownBlock = some g) : tyOf w g = some e := by
  rcases h.2 with ⟨rfl, _⟩ | ⟨g', cap, cur, rfl, _, hc, _⟩
  · cases hg
  · simp only [Value.ownBlock, Option.some.injEq] at hg; subst hg; exact tyOf_of hc

def up2 (f : Nat → Nat → Value) (a o : Nat) (v : Value) : Nat → Nat → Value := fun x y => if x = a ∧ y = o then v else f x y
theorem up2_same (f : Nat → Nat → Value) (a o : Nat) (v : Value) : up2 f a o v a o = v := by simp [up2]
theorem up2_ne {f : Nat → Nat → Value} {a o x y : Nat} {v : Value} (h : ¬ (x = a ∧ y = o)) : up2 f a o v x y = f x y := by simp [up2, h]

/-- a family of blocks of one type: n blocks b k, of each the first sz cells c k -/
structure Fam (base : Nat) (t : TypeId) (sz n : Nat) (b : Nat → Nat) (c : Nat → Nat → Value) (w : World) : Prop where
  ty : ∀ k, k < n → tyOf w (b k) = some t
  inj : ∀ k k', k < n → k' < n → b k = b k' → k = k'
  cell : ∀ k o, k < n → o < sz → w.cell? ⟨b k, o, none⟩ = some (c k o)
  le : ∀ k, k < n → base ≤ b k

section fam
variable {base sz n : Nat} {t t' : TypeId} {b : Nat → Nat} {c : Nat → Nat → Value} {w w' : World}
theorem Fam.set_other (h : Fam base t sz n b c w) {B o : Nat} {v : Value} (hB : tyOf w B = some t') (hn : t ≠ t') : Fam base t sz n b c (w.setCell ⟨B, o, none⟩ v) :=
  ⟨fun k hk => (set_ty hB).trans (h.ty k hk), h.inj, fun k p hk hp => (set_cell_ne (tyOf_ne (h.ty k hk) hB hn)).trans (h.cell k p hk hp), h.le⟩
theorem Fam.set (h : Fam base t sz n b c w) {k : Nat} (hk : k < n) (o : Nat) (v : Value) : Fam base t sz n b (up2 c k o v) (w.setCell ⟨b k, o, none⟩ v) := by
  refine ⟨fun j hj => (set_ty (h.ty k hk)).trans (h.ty j hj), h.inj, fun j p hj hp => ?_, h.le⟩
  rw [set_cell (h.cell j p hj hp)]
  by_cases e : j = k ∧ p = o
  · obtain ⟨rfl, rfl⟩ := e
    simp [up2]
  · rw [up2_ne e, if_neg]
    intro x
    simp only [Addr.mk.injEq, and_true] at x
    exact e ⟨(h.inj k j hk hj x.1).symm, x.2.symm⟩
theorem Fam.kept {S : Nat → Prop} (h : Fam base t sz n b c w) (k : Kept S w w') (hS : ∀ j, j < n → ¬ S (b j)) : Fam base t sz n b c w' :=
  ⟨fun j hj => (tyOf_congr (k.block _ (tyOf_lt (h.ty j hj)) (hS j hj))).trans (h.ty j hj), h.inj,
   fun j p hj hp => (World.cell?_of_block (k.block _ (tyOf_lt (h.ty j hj)) (hS j hj))).trans (h.cell j p hj hp), h.le⟩
theorem Fam.snoc (h : Fam base t sz n b c w) {B : Nat} {d : Nat → Value} (hB : tyOf w B = some t) (hnew : ∀ k, k < n → b k ≠ B) (hd : ∀ o, o < sz → w.cell? ⟨B, o, none⟩ = some (d o)) (hle : base ≤ B) :
    Fam base t sz (n + 1) (fun k => if k = n then B else b k) (fun k o => if k = n then d o else c k o) w := by
  refine ⟨fun k hk => ?_, fun k k' hk hk' e => ?_, fun k o hk ho => ?_, fun k hk => ?_⟩
  · by_cases e : k = n
    · rw [if_pos e]; exact hB
    · rw [if_neg e]; exact h.ty k (by omega)
  · by_cases e1 : k = n <;> by_cases e2 : k' = n
    · omega
    · rw [if_pos e1, if_neg e2] at e; exact absurd e.symm (hnew k' (by omega))
    · rw [if_neg e1, if_pos e2] at e; exact absurd e (hnew k (by omega))
    · rw [if_neg e1, if_neg e2] at e; exact h.inj k k' (by omega) (by omega) e
  · by_cases e : k = n
    · rw [if_pos e, if_pos e]; exact hd o ho
    · rw [if_neg e, if_neg e]; exact h.cell k o (by omega) ho
  · by_cases e : k = n
    · rw [if_pos e]; exact hle
    · rw [if_neg e]; exact h.le k (by omega)
theorem Fam.cut (h : Fam base t sz n b c w) {m : Nat} (hm : m ≤ n) : Fam base t sz m b c w :=
  ⟨fun k hk => h.ty k (by omega), fun k k' hk hk' => h.inj k k' (by omega) (by omega), fun k o hk ho => h.cell k o (by omega) ho, fun k hk => h.le k (by omega)⟩
end fam

/-- what the wheel's memory holds -/
structure Dat where
  wc : Nat → Nat → Value
  cc : Nat → Nat → Value
  nl : Nat
  rb : Nat → Nat
  rc : Nat → Nat → Value
  nc : Nat
  cb : Nat → Nat
  ec : Nat → Nat → Value
  nt : Nat
  tb : Nat → Nat
  tc : Nat → Nat → Value
  lv : List Value
  qv : List Value
  cv : List Value

def Dat.ringV (D : Dat) (k : Nat) : Value := .slice (some ⟨D.rb k, 0, none⟩) 20 20
def Dat.slotP (D : Dat) (s : Nat × Nat) : Value := .pointer (some ⟨D.rb s.1, s.2 * 4, none⟩)
def Dat.chunkP (D : Dat) (c : Nat) : Value := .pointer (some ⟨D.cb c, 0, none⟩)

structure St (w0 wx : World) (W C G : Nat) (D : Dat) (w : World) : Prop where
  fW : Fam w0.heap.size 66 41 1 (fun _ => W) D.wc w
  fC : Fam w0.heap.size 25 2 1 (fun _ => C) D.cc w
  tG : tyOf w G = some 37
  hG : Widths G w
  fR : Fam w0.heap.size 56 80 D.nl D.rb D.rc w
  fE : Fam w0.heap.size 114 5120 D.nc D.cb D.ec w
  fT : Fam w0.heap.size 76 4 D.nt D.tb D.tc w
  oL : w.ownsRow w0.heap.size 121 1 (D.wc 0 16) D.lv.length D.lv
  oQ : w.ownsRow w0.heap.size 93 1 (D.wc 0 17) D.qv.length D.qv
  oC : w.ownsRow w0.heap.size 113 1 (D.wc 0 18) D.cv.length D.cv
  hb : Below w0.heap.size w0 w
  fr : ∀ b, (tyOf wx b = some 74 ∨ tyOf wx b = some 4) → w.heap[b]? = wx.heap[b]?
  sz : w0.heap.size ≤ w.heap.size

variable {w0 wx w w' : World} {W C G : Nat} {D : Dat}

theorem fr_set {b o t : Nat} {v : Value} (h : ∀ b, (tyOf wx b = some 74 ∨ tyOf wx b = some 4) → w.heap[b]? = wx.heap[b]?) (hb : tyOf w b = some t) (h1 : t ≠ 74) (h2 : t ≠ 4) :
    ∀ k, (tyOf wx k = some 74 ∨ tyOf wx k = some 4) → (w.setCell ⟨b, o, none⟩ v).heap[k]? = wx.heap[k]? := fun k hk => by
  have e := h k hk
  refine (set_other ?_).trans e
  rcases hk with hk | hk
  · exact tyOf_ne ((tyOf_congr e).trans hk) hb (fun x => h1 x.symm)
  · exact tyOf_ne ((tyOf_congr e).trans hk) hb (fun x => h2 x.symm)
theorem widths_set {b o t : Nat} {v : Value} (h : Widths G w) (tG : tyOf w G = some 37) (hb : tyOf w b = some t) (hn : 37 ≠ t) : Widths G (w.setCell ⟨b, o, none⟩ v) := by
  have hne := tyOf_ne tG hb hn
  refine ⟨by simpa using h.1, fun k hk => ?_⟩
  obtain ⟨h0, h1, h2⟩ := h.2 k hk
  exact ⟨(set_cell_ne hne).trans h0, (set_cell_ne hne).trans h1, (set_cell_ne hne).trans h2⟩
theorem widths_kept {S : Nat → Prop} (h : Widths G w) (k : Kept S w w') (hS : ¬ S G) : Widths G w' := by
  have e := k.block G h.1 hS
  refine ⟨Nat.lt_of_lt_of_le h.1 k.size, fun j hj => ?_⟩
  obtain ⟨h0, h1, h2⟩ := h.2 j hj
  exact ⟨(World.cell?_of_block e).trans h0, (World.cell?_of_block e).trans h1, (World.cell?_of_block e).trans h2⟩

theorem St.rebase (h : St w0 wx W C G D w) : St w0 w W C G D w := { h with fr := fun _ _ => rfl }

theorem St.setW (h : St w0 wx W C G D w) (o : Nat) (v : Value) (h16 : o ≠ 16) (h17 : o ≠ 17) (h18 : o ≠ 18) : St w0 wx W C G { D with wc := up2 D.wc 0 o v } (w.setCell ⟨W, o, none⟩ v) := by
  have tB : tyOf w (W) = some 66 := h.fW.ty 0 (by omega)
  refine { fW := ?_, fC := ?_, tG := (set_ty tB).trans h.tG, hG := widths_set h.hG h.tG tB (by decide), fR := ?_, fE := ?_, fT := ?_, oL := ?_, oQ := ?_, oC := ?_, hb := h.hb.setCell (h.fW.le 0 (by omega)) _, fr := fr_set h.fr tB (by decide) (by decide), sz := by simpa using h.sz }
  · exact h.fW.set (k := 0) (by omega) o v
  · exact h.fC.set_other tB (by decide)
  · exact h.fR.set_other tB (by decide)
  · exact h.fE.set_other tB (by decide)
  · exact h.fT.set_other tB (by decide)
  · show World.ownsRow _ _ _ _ (up2 D.wc 0 o v 0 16) _ _
    rw [up2_ne (fun x => h16 x.2.symm)]; exact set_owns h.oL tB (by decide)
  · show World.ownsRow _ _ _ _ (up2 D.wc 0 o v 0 17) _ _
    rw [up2_ne (fun x => h17 x.2.symm)]; exact set_owns h.oQ tB (by decide)
  · show World.ownsRow _ _ _ _ (up2 D.wc 0 o v 0 18) _ _
    rw [up2_ne (fun x => h18 x.2.symm)]; exact set_owns h.oC tB (by decide)

theorem St.setC (h : St w0 wx W C G D w) (o : Nat) (v : Value) : St w0 wx W C G { D with cc := up2 D.cc 0 o v } (w.setCell ⟨C, o, none⟩ v) := by
  have tB : tyOf w (C) = some 25 := h.fC.ty 0 (by omega)
  refine { fW := ?_, fC := ?_, tG := (set_ty tB).trans h.tG, hG := widths_set h.hG h.tG tB (by decide), fR := ?_, fE := ?_, fT := ?_, oL := ?_, oQ := ?_, oC := ?_, hb := h.hb.setCell (h.fC.le 0 (by omega)) _, fr := fr_set h.fr tB (by decide) (by decide), sz := by simpa using h.sz }
  · exact h.fW.set_other tB (by decide)
  · exact h.fC.set (k := 0) (by omega) o v
  · exact h.fR.set_other tB (by decide)
  · exact h.fE.set_other tB (by decide)
  · exact h.fT.set_other tB (by decide)
  · exact set_owns h.oL tB (by decide)
  · exact set_owns h.oQ tB (by decide)
  · exact set_owns h.oC tB (by decide)

theorem St.setR (h : St w0 wx W C G D w) (k : Nat) (hk : k < D.nl) (o : Nat) (v : Value) : St w0 wx W C G { D with rc := up2 D.rc k o v } (w.setCell ⟨D.rb k, o, none⟩ v) := by
  have tB : tyOf w (D.rb k) = some 56 := h.fR.ty k hk
  refine { fW := ?_, fC := ?_, tG := (set_ty tB).trans h.tG, hG := widths_set h.hG h.tG tB (by decide), fR := ?_, fE := ?_, fT := ?_, oL := ?_, oQ := ?_, oC := ?_, hb := h.hb.setCell (h.fR.le k hk) _, fr := fr_set h.fr tB (by decide) (by decide), sz := by simpa using h.sz }
  · exact h.fW.set_other tB (by decide)
  · exact h.fC.set_other tB (by decide)
  · exact h.fR.set hk o v
  · exact h.fE.set_other tB (by decide)
  · exact h.fT.set_other tB (by decide)
  · exact set_owns h.oL tB (by decide)
  · exact set_owns h.oQ tB (by decide)
  · exact set_owns h.oC tB (by decide)

theorem St.setE (h : St w0 wx W C G D w) (k : Nat) (hk : k < D.nc) (o : Nat) (v : Value) : St w0 wx W C G { D with ec := up2 D.ec k o v } (w.setCell ⟨D.cb k, o, none⟩ v) := by
  have tB : tyOf w (D.cb k) = some 114 := h.fE.ty k hk
  refine { fW := ?_, fC := ?_, tG := (set_ty tB).trans h.tG, hG := widths_set h.hG h.tG tB (by decide), fR := ?_, fE := ?_, fT := ?_, oL := ?_, oQ := ?_, oC := ?_, hb := h.hb.setCell (h.fE.le k hk) _, fr := fr_set h.fr tB (by decide) (by decide), sz := by simpa using h.sz }
  · exact h.fW.set_other tB (by decide)
  · exact h.fC.set_other tB (by decide)
  · exact h.fR.set_other tB (by decide)
  · exact h.fE.set hk o v
  · exact h.fT.set_other tB (by decide)
  · exact set_owns h.oL tB (by decide)
  · exact set_owns h.oQ tB (by decide)
  · exact set_owns h.oC tB (by decide)

theorem St.setT (h : St w0 wx W C G D w) (k : Nat) (hk : k < D.nt) (o : Nat) (v : Value) : St w0 wx W C G { D with tc := up2 D.tc k o v } (w.setCell ⟨D.tb k, o, none⟩ v) := by
  have tB : tyOf w (D.tb k) = some 76 := h.fT.ty k hk
  refine { fW := ?_, fC := ?_, tG := (set_ty tB).trans h.tG, hG := widths_set h.hG h.tG tB (by decide), fR := ?_, fE := ?_, fT := ?_, oL := ?_, oQ := ?_, oC := ?_, hb := h.hb.setCell (h.fT.le k hk) _, fr := fr_set h.fr tB (by decide) (by decide), sz := by simpa using h.sz }
  · exact h.fW.set_other tB (by decide)
  · exact h.fC.set_other tB (by decide)
  · exact h.fR.set_other tB (by decide)
  · exact h.fE.set_other tB (by decide)
  · exact h.fT.set hk o v
  · exact set_owns h.oL tB (by decide)
  · exact set_owns h.oQ tB (by decide)
  · exact set_owns h.oC tB (by decide)

/-- new blocks alone -/
theorem St.kept (h : St w0 wx W C G D w) (k : Kept (fun _ => False) w w') : St w0 wx W C G D w' where
  fW := h.fW.kept k (fun _ _ x => x)
  fC := h.fC.kept k (fun _ _ x => x)
  tG := (tyOf_congr (k.block _ (tyOf_lt h.tG) (fun x => x))).trans h.tG
  hG := widths_kept h.hG k (fun x => x)
  fR := h.fR.kept k (fun _ _ x => x)
  fE := h.fE.kept k (fun _ _ x => x)
  fT := h.fT.kept k (fun _ _ x => x)
  oL := k.owns h.oL (fun _ _ x => x)
  oQ := k.owns h.oQ (fun _ _ x => x)
  oC := k.owns h.oC (fun _ _ x => x)
  hb := k.below h.hb h.sz (fun _ x => x.elim)
  fr := fun b hb => by
    have e := h.fr b hb
    have hlt : b < w.heap.size := by
      rcases hb with hb | hb <;> exact tyOf_lt ((tyOf_congr e).trans hb)
    exact (k.block b hlt (fun x => x)).trans e
  sz := Nat.le_trans h.sz k.size
theorem St.new (h : St w0 wx W C G D w) (hb : Below w.heap.size w w') : St w0 wx W C G D w' := h.kept (Kept.of_below hb)

/-- the cells of a row -/
theorem row_at {base e n : Nat} {v : Value} {xs : List Value} (h : w.ownsRow base e 1 v n xs) (hn : 0 < n) : ∃ g cap, v = .slice (some ⟨g, 0, none⟩) n cap ∧ tyOf w g = some e ∧ base ≤ g ∧ n ≤ cap ∧ cap ≤ maxLen ∧ (∀ j, j < n → w.cell? ⟨g, j, none⟩ = xs[j]?) := by
  rcases h.2 with ⟨_, h0⟩ | ⟨g, cap, cur, rfl, hg, hc, hnc, hm, _⟩
  · omega
  · exact ⟨g, cap, rfl, tyOf_of hc, hg, hnc, hm, fun j hj => h.cellAt j (by omega)⟩
theorem row_cut {base e n cap g m : Nat} {xs : List Value} (h : w.ownsRow base e 1 (.slice (some ⟨g, 0, none⟩) n cap) n xs) (hm : m ≤ n) : w.ownsRow base e 1 (.slice (some ⟨g, 0, none⟩) m cap) m (xs.take m) := by
  obtain ⟨h1, h2⟩ := h
  refine ⟨by simp at h1 ⊢; omega, .inr ?_⟩
  rcases h2 with ⟨h0, _⟩ | ⟨g', cap', cur, e1, hg, hc, hnc, hcm, hcs, ht⟩
  · cases h0
  · simp only [Value.slice.injEq, Option.some.injEq, Addr.mk.injEq] at e1
    obtain ⟨⟨rfl, _⟩, _, rfl⟩ := e1
    refine ⟨g, cap, cur, rfl, hg, hc, by omega, hcm, hcs, ?_⟩
    rw [← ht, List.take_take]
    congr 1
    omega

/-- the wheel takes a new value for the row -/
theorem St.valL (h : St w0 wx W C G D w) (v : Value) (xs : List Value) (ho : w.ownsRow w0.heap.size 121 1 v xs.length xs) : St w0 wx W C G { D with lv := xs, wc := up2 D.wc 0 16 v } (w.setCell ⟨W, 16, none⟩ v) := by
  have tB : tyOf w W = some 66 := h.fW.ty 0 (by omega)
  refine { fW := h.fW.set (k := 0) (by omega) 16 v, fC := h.fC.set_other tB (by decide), tG := (set_ty tB).trans h.tG, hG := widths_set h.hG h.tG tB (by decide), fR := h.fR.set_other tB (by decide), fE := h.fE.set_other tB (by decide), fT := h.fT.set_other tB (by decide), oL := ?_, oQ := ?_, oC := ?_, hb := h.hb.setCell (h.fW.le 0 (by omega)) _, fr := fr_set h.fr tB (by decide) (by decide), sz := by simpa using h.sz }
  · show World.ownsRow _ _ _ _ (up2 D.wc 0 16 v 0 16) _ _
    rw [up2_same]; exact set_owns ho tB (by decide)
  · show World.ownsRow _ _ _ _ (up2 D.wc 0 16 v 0 17) _ _
    rw [up2_ne (by decide)]; exact set_owns h.oQ tB (by decide)
  · show World.ownsRow _ _ _ _ (up2 D.wc 0 16 v 0 18) _ _
    rw [up2_ne (by decide)]; exact set_owns h.oC tB (by decide)

/-- behind an append to the row, ahead of the store of its new value -/
theorem St.growL (h : St w0 wx W C G D w) {wa : World} (k : Kept (fun j => (D.wc 0 16).ownBlock = some j) w wa) (v : Value) (xs : List Value) (ho : wa.ownsRow w0.heap.size 121 1 v xs.length xs) : St w0 wx W C G { D with lv := xs, wc := up2 D.wc 0 16 v } (wa.setCell ⟨W, 16, none⟩ v) := by
  have hne : ∀ {b t : Nat}, tyOf w b = some t → t ≠ 121 → ¬ (D.wc 0 16).ownBlock = some b := fun hb hn e => tyOf_ne hb (own_ty h.oL _ e) hn rfl
  have hWa := h.fW.kept k (fun j hj => hne (h.fW.ty j hj) (by decide))
  have tB : tyOf wa W = some 66 := hWa.ty 0 (by omega)
  have tGa : tyOf wa G = some 37 := (tyOf_congr (k.block _ (tyOf_lt h.tG) (hne h.tG (by decide)))).trans h.tG
  refine { fW := hWa.set (k := 0) (by omega) 16 v, fC := (h.fC.kept k (fun j hj => hne (h.fC.ty j hj) (by decide))).set_other tB (by decide), tG := (set_ty tB).trans tGa, hG := widths_set (widths_kept h.hG k (hne h.tG (by decide))) tGa tB (by decide), fR := (h.fR.kept k (fun j hj => hne (h.fR.ty j hj) (by decide))).set_other tB (by decide), fE := (h.fE.kept k (fun j hj => hne (h.fE.ty j hj) (by decide))).set_other tB (by decide), fT := (h.fT.kept k (fun j hj => hne (h.fT.ty j hj) (by decide))).set_other tB (by decide), oL := ?_, oQ := ?_, oC := ?_, hb := (k.below h.hb h.sz (fun g hg => (h.oL.lt g hg).1)).setCell (h.fW.le 0 (by omega)) _, fr := fr_set (fun b hb => ?_) tB (by decide) (by decide), sz := by simpa using Nat.le_trans h.sz k.size }
  · show World.ownsRow _ _ _ _ (up2 D.wc 0 16 v 0 16) _ _
    rw [up2_same]; exact set_owns ho tB (by decide)
  · show World.ownsRow _ _ _ _ (up2 D.wc 0 16 v 0 17) _ _
    rw [up2_ne (by decide)]; exact set_owns (k.owns h.oQ (fun g hg => hne (own_ty h.oQ g hg) (by decide))) tB (by decide)
  · show World.ownsRow _ _ _ _ (up2 D.wc 0 16 v 0 18) _ _
    rw [up2_ne (by decide)]; exact set_owns (k.owns h.oC (fun g hg => hne (own_ty h.oC g hg) (by decide))) tB (by decide)
  · have e := h.fr b hb
    rcases hb with hb | hb
    · have ht := (tyOf_congr e).trans hb
      exact (k.block b (tyOf_lt ht) (hne ht (by decide))).trans e
    · have ht := (tyOf_congr e).trans hb
      exact (k.block b (tyOf_lt ht) (hne ht (by decide))).trans e

/-- a store into the row -/
theorem St.rowQ (h : St w0 wx W C G D w) {g n cap : Nat} (hv : D.wc 0 17 = .slice (some ⟨g, 0, none⟩) n cap) (i : Nat) (x : Value) : St w0 wx W C G { D with qv := D.qv.set i x } (w.setCell ⟨g, i, none⟩ x) := by
  have hv2 : D.qv.length = n := by
    rcases h.oQ.2 with ⟨h0, _⟩ | ⟨g', cap', cur, e1, _⟩
    · rw [hv] at h0; cases h0
    · rw [hv] at e1; simp only [Value.slice.injEq] at e1; exact e1.2.1.symm
  have tB : tyOf w g = some 93 := own_ty h.oQ g (by rw [hv]; rfl)
  have ho := h.oQ
  rw [hv, hv2] at ho
  refine { fW := h.fW.set_other tB (by decide), fC := h.fC.set_other tB (by decide), tG := (set_ty tB).trans h.tG, hG := widths_set h.hG h.tG tB (by decide), fR := h.fR.set_other tB (by decide), fE := h.fE.set_other tB (by decide), fT := h.fT.set_other tB (by decide), oL := ?_, oQ := ?_, oC := ?_, hb := h.hb.setCell (ho.lt g rfl).1 _, fr := fr_set h.fr tB (by decide) (by decide), sz := by simpa using h.sz }
  · exact set_owns h.oL tB (by decide)
  · show World.ownsRow _ _ _ _ (D.wc 0 17) (D.qv.set i x).length _
    rw [hv, List.length_set, hv2]
    exact (ho.stored i x).1
  · exact set_owns h.oC tB (by decide)

/-- the wheel takes a new value for the row -/
theorem St.valQ (h : St w0 wx W C G D w) (v : Value) (xs : List Value) (ho : w.ownsRow w0.heap.size 93 1 v xs.length xs) : St w0 wx W C G { D with qv := xs, wc := up2 D.wc 0 17 v } (w.setCell ⟨W, 17, none⟩ v) := by
  have tB : tyOf w W = some 66 := h.fW.ty 0 (by omega)
  refine { fW := h.fW.set (k := 0) (by omega) 17 v, fC := h.fC.set_other tB (by decide), tG := (set_ty tB).trans h.tG, hG := widths_set h.hG h.tG tB (by decide), fR := h.fR.set_other tB (by decide), fE := h.fE.set_other tB (by decide), fT := h.fT.set_other tB (by decide), oL := ?_, oQ := ?_, oC := ?_, hb := h.hb.setCell (h.fW.le 0 (by omega)) _, fr := fr_set h.fr tB (by decide) (by decide), sz := by simpa using h.sz }
  · show World.ownsRow _ _ _ _ (up2 D.wc 0 17 v 0 16) _ _
    rw [up2_ne (by decide)]; exact set_owns h.oL tB (by decide)
  · show World.ownsRow _ _ _ _ (up2 D.wc 0 17 v 0 17) _ _
    rw [up2_same]; exact set_owns ho tB (by decide)
  · show World.ownsRow _ _ _ _ (up2 D.wc 0 17 v 0 18) _ _
    rw [up2_ne (by decide)]; exact set_owns h.oC tB (by decide)

/-- behind an append to the row, ahead of the store of its new value -/
theorem St.growQ (h : St w0 wx W C G D w) {wa : World} (k : Kept (fun j => (D.wc 0 17).ownBlock = some j) w wa) (v : Value) (xs : List Value) (ho : wa.ownsRow w0.heap.size 93 1 v xs.length xs) : St w0 wx W C G { D with qv := xs, wc := up2 D.wc 0 17 v } (wa.setCell ⟨W, 17, none⟩ v) := by
  have hne : ∀ {b t : Nat}, tyOf w b = some t → t ≠ 93 → ¬ (D.wc 0 17).ownBlock = some b := fun hb hn e => tyOf_ne hb (own_ty h.oQ _ e) hn rfl
  have hWa := h.fW.kept k (fun j hj => hne (h.fW.ty j hj) (by decide))
  have tB : tyOf wa W = some 66 := hWa.ty 0 (by omega)
  have tGa : tyOf wa G = some 37 := (tyOf_congr (k.block _ (tyOf_lt h.tG) (hne h.tG (by decide)))).trans h.tG
  refine { fW := hWa.set (k := 0) (by omega) 17 v, fC := (h.fC.kept k (fun j hj => hne (h.fC.ty j hj) (by decide))).set_other tB (by decide), tG := (set_ty tB).trans tGa, hG := widths_set (widths_kept h.hG k (hne h.tG (by decide))) tGa tB (by decide), fR := (h.fR.kept k (fun j hj => hne (h.fR.ty j hj) (by decide))).set_other tB (by decide), fE := (h.fE.kept k (fun j hj => hne (h.fE.ty j hj) (by decide))).set_other tB (by decide), fT := (h.fT.kept k (fun j hj => hne (h.fT.ty j hj) (by decide))).set_other tB (by decide), oL := ?_, oQ := ?_, oC := ?_, hb := (k.below h.hb h.sz (fun g hg => (h.oQ.lt g hg).1)).setCell (h.fW.le 0 (by omega)) _, fr := fr_set (fun b hb => ?_) tB (by decide) (by decide), sz := by simpa using Nat.le_trans h.sz k.size }
  · show World.ownsRow _ _ _ _ (up2 D.wc 0 17 v 0 16) _ _
    rw [up2_ne (by decide)]; exact set_owns (k.owns h.oL (fun g hg => hne (own_ty h.oL g hg) (by decide))) tB (by decide)
  · show World.ownsRow _ _ _ _ (up2 D.wc 0 17 v 0 17) _ _
    rw [up2_same]; exact set_owns ho tB (by decide)
  · show World.ownsRow _ _ _ _ (up2 D.wc 0 17 v 0 18) _ _
    rw [up2_ne (by decide)]; exact set_owns (k.owns h.oC (fun g hg => hne (own_ty h.oC g hg) (by decide))) tB (by decide)
  · have e := h.fr b hb
    rcases hb with hb | hb
    · have ht := (tyOf_congr e).trans hb
      exact (k.block b (tyOf_lt ht) (hne ht (by decide))).trans e
    · have ht := (tyOf_congr e).trans hb
      exact (k.block b (tyOf_lt ht) (hne ht (by decide))).trans e

/-- a store into the row -/
theorem St.rowC (h : St w0 wx W C G D w) {g n cap : Nat} (hv : D.wc 0 18 = .slice (some ⟨g, 0, none⟩) n cap) (i : Nat) (x : Value) : St w0 wx W C G { D with cv := D.cv.set i x } (w.setCell ⟨g, i, none⟩ x) := by
  have hv2 : D.cv.length = n := by
    rcases h.oC.2 with ⟨h0, _⟩ | ⟨g', cap', cur, e1, _⟩
    · rw [hv] at h0; cases h0
    · rw [hv] at e1; simp only [Value.slice.injEq] at e1; exact e1.2.1.symm
  have tB : tyOf w g = some 113 := own_ty h.oC g (by rw [hv]; rfl)
  have ho := h.oC
  rw [hv, hv2] at ho
  refine { fW := h.fW.set_other tB (by decide), fC := h.fC.set_other tB (by decide), tG := (set_ty tB).trans h.tG, hG := widths_set h.hG h.tG tB (by decide), fR := h.fR.set_other tB (by decide), fE := h.fE.set_other tB (by decide), fT := h.fT.set_other tB (by decide), oL := ?_, oQ := ?_, oC := ?_, hb := h.hb.setCell (ho.lt g rfl).1 _, fr := fr_set h.fr tB (by decide) (by decide), sz := by simpa using h.sz }
  · exact set_owns h.oL tB (by decide)
  · exact set_owns h.oQ tB (by decide)
  · show World.ownsRow _ _ _ _ (D.wc 0 18) (D.cv.set i x).length _
    rw [hv, List.length_set, hv2]
    exact (ho.stored i x).1

/-- the wheel takes a new value for the row -/
theorem St.valC (h : St w0 wx W C G D w) (v : Value) (xs : List Value) (ho : w.ownsRow w0.heap.size 113 1 v xs.length xs) : St w0 wx W C G { D with cv := xs, wc := up2 D.wc 0 18 v } (w.setCell ⟨W, 18, none⟩ v) := by
  have tB : tyOf w W = some 66 := h.fW.ty 0 (by omega)
  refine { fW := h.fW.set (k := 0) (by omega) 18 v, fC := h.fC.set_other tB (by decide), tG := (set_ty tB).trans h.tG, hG := widths_set h.hG h.tG tB (by decide), fR := h.fR.set_other tB (by decide), fE := h.fE.set_other tB (by decide), fT := h.fT.set_other tB (by decide), oL := ?_, oQ := ?_, oC := ?_, hb := h.hb.setCell (h.fW.le 0 (by omega)) _, fr := fr_set h.fr tB (by decide) (by decide), sz := by simpa using h.sz }
  · show World.ownsRow _ _ _ _ (up2 D.wc 0 18 v 0 16) _ _
    rw [up2_ne (by decide)]; exact set_owns h.oL tB (by decide)
  · show World.ownsRow _ _ _ _ (up2 D.wc 0 18 v 0 17) _ _
    rw [up2_ne (by decide)]; exact set_owns h.oQ tB (by decide)
  · show World.ownsRow _ _ _ _ (up2 D.wc 0 18 v 0 18) _ _
    rw [up2_same]; exact set_owns ho tB (by decide)

/-- behind an append to the row, ahead of the store of its new value -/
theorem St.growC (h : St w0 wx W C G D w) {wa : World} (k : Kept (fun j => (D.wc 0 18).ownBlock = some j) w wa) (v : Value) (xs : List Value) (ho : wa.ownsRow w0.heap.size 113 1 v xs.length xs) : St w0 wx W C G { D with cv := xs, wc := up2 D.wc 0 18 v } (wa.setCell ⟨W, 18, none⟩ v) := by
  have hne : ∀ {b t : Nat}, tyOf w b = some t → t ≠ 113 → ¬ (D.wc 0 18).ownBlock = some b := fun hb hn e => tyOf_ne hb (own_ty h.oC _ e) hn rfl
  have hWa := h.fW.kept k (fun j hj => hne (h.fW.ty j hj) (by decide))
  have tB : tyOf wa W = some 66 := hWa.ty 0 (by omega)
  have tGa : tyOf wa G = some 37 := (tyOf_congr (k.block _ (tyOf_lt h.tG) (hne h.tG (by decide)))).trans h.tG
  refine { fW := hWa.set (k := 0) (by omega) 18 v, fC := (h.fC.kept k (fun j hj => hne (h.fC.ty j hj) (by decide))).set_other tB (by decide), tG := (set_ty tB).trans tGa, hG := widths_set (widths_kept h.hG k (hne h.tG (by decide))) tGa tB (by decide), fR := (h.fR.kept k (fun j hj => hne (h.fR.ty j hj) (by decide))).set_other tB (by decide), fE := (h.fE.kept k (fun j hj => hne (h.fE.ty j hj) (by decide))).set_other tB (by decide), fT := (h.fT.kept k (fun j hj => hne (h.fT.ty j hj) (by decide))).set_other tB (by decide), oL := ?_, oQ := ?_, oC := ?_, hb := (k.below h.hb h.sz (fun g hg => (h.oC.lt g hg).1)).setCell (h.fW.le 0 (by omega)) _, fr := fr_set (fun b hb => ?_) tB (by decide) (by decide), sz := by simpa using Nat.le_trans h.sz k.size }
  · show World.ownsRow _ _ _ _ (up2 D.wc 0 18 v 0 16) _ _
    rw [up2_ne (by decide)]; exact set_owns (k.owns h.oL (fun g hg => hne (own_ty h.oL g hg) (by decide))) tB (by decide)
  · show World.ownsRow _ _ _ _ (up2 D.wc 0 18 v 0 17) _ _
    rw [up2_ne (by decide)]; exact set_owns (k.owns h.oQ (fun g hg => hne (own_ty h.oQ g hg) (by decide))) tB (by decide)
  · show World.ownsRow _ _ _ _ (up2 D.wc 0 18 v 0 18) _ _
    rw [up2_same]; exact set_owns ho tB (by decide)
  · have e := h.fr b hb
    rcases hb with hb | hb
    · have ht := (tyOf_congr e).trans hb
      exact (k.block b (tyOf_lt ht) (hne ht (by decide))).trans e
    · have ht := (tyOf_congr e).trans hb
      exact (k.block b (tyOf_lt ht) (hne ht (by decide))).trans e

/-- a new ring, a new chunk, a new timer: a block that is there and is none of the known -/
theorem St.addR (h : St w0 wx W C G D w) {B : Nat} {d : Nat → Value} (hB : tyOf w B = some 56) (hnew : ∀ k, k < D.nl → D.rb k ≠ B) (hd : ∀ o, o < 80 → w.cell? ⟨B, o, none⟩ = some (d o)) (hle : w0.heap.size ≤ B) :
    St w0 wx W C G { D with nl := D.nl + 1, rb := fun k => if k = D.nl then B else D.rb k, rc := fun k o => if k = D.nl then d o else D.rc k o } w := { h with fR := h.fR.snoc hB hnew hd hle }
theorem St.addE (h : St w0 wx W C G D w) {B : Nat} {d : Nat → Value} (hB : tyOf w B = some 114) (hnew : ∀ k, k < D.nc → D.cb k ≠ B) (hd : ∀ o, o < 5120 → w.cell? ⟨B, o, none⟩ = some (d o)) (hle : w0.heap.size ≤ B) :
    St w0 wx W C G { D with nc := D.nc + 1, cb := fun k => if k = D.nc then B else D.cb k, ec := fun k o => if k = D.nc then d o else D.ec k o } w := { h with fE := h.fE.snoc hB hnew hd hle }
theorem St.addT (h : St w0 wx W C G D w) {B : Nat} {d : Nat → Value} (hB : tyOf w B = some 76) (hnew : ∀ k, k < D.nt → D.tb k ≠ B) (hd : ∀ o, o < 4 → w.cell? ⟨B, o, none⟩ = some (d o)) (hle : w0.heap.size ≤ B) :
    St w0 wx W C G { D with nt := D.nt + 1, tb := fun k => if k = D.nt then B else D.tb k, tc := fun k o => if k = D.nt then d o else D.tc k o } w := { h with fT := h.fT.snoc hB hnew hd hle }
end Go.Proofs.Ybulkckyc
