import Derived.Test.YbulkckssFin
import Derived.Test.YbulkckssBfs
import Derived.Test.YbulkckssAppend
namespace Go.Proofs.Ybulkckss
open Go.RowKit

/-- the classes of the bytes -/
structure Cls (bs : List Nat) (cl : Nat → Nat) : Prop where
  a : ∀ (c b : Nat), bs[c]? = some b → b < 256 ∧ cl b = c + 1
  z : ∀ b, cl b ≠ 0 → bs[cl b - 1]? = some b
theorem Cls.init : Cls [] (fun _ => 0) := ⟨fun c b h => by simp at h, fun b h => absurd rfl h⟩
theorem Cls.add {bs : List Nat} {cl : Nat → Nat} (h : Cls bs cl) {b : Nat} (hb : b < 256) (h0 : cl b = 0) : Cls (bs ++ [b]) (fun x => if x = b then bs.length + 1 else cl x) := by
  refine ⟨fun c x hx => ?_, fun x hx => ?_⟩
  · by_cases hc : c < bs.length
    · rw [List.getElem?_append_left hc] at hx
      obtain ⟨h1, h2⟩ := h.a c x hx
      refine ⟨h1, ?_⟩
      rw [if_neg (fun e => by rw [e, h0] at h2; omega)]; exact h2
    · rw [List.getElem?_append_right (by omega)] at hx
      by_cases c0 : c - bs.length = 0
      · rw [c0] at hx
        simp at hx
        subst hx
        exact ⟨hb, by rw [if_pos rfl]; omega⟩
      · rw [List.getElem?_eq_none (by simp; omega)] at hx; cases hx
  · by_cases e : x = b
    · simp only [if_pos e]
      rw [List.getElem?_append_right (by omega), e]; simp
    · simp only [if_neg e] at hx ⊢
      have h1 := h.z x hx
      rw [List.getElem?_append_left (List.getElem?_eq_some_iff.1 h1).1]; exact h1
theorem Cls.le {bs : List Nat} {cl : Nat → Nat} (h : Cls bs cl) (b : Nat) : cl b ≤ bs.length := by
  by_cases e : cl b = 0
  · omega
  · have := (List.getElem?_eq_some_iff.1 (h.z b e)).1
    omega
theorem len_of_inj : ∀ (N : Nat) (q : List Nat), (∀ (i j x : Nat), q[i]? = some x → q[j]? = some x → i = j) → (∀ s, s ∈ q → s < N) → q.length ≤ N := by
  intro N
  induction N with
  | zero =>
    intro q _ h
    cases q with
    | nil => simp
    | cons a l => have := h a (List.mem_cons_self ..); omega
  | succ N ih =>
    intro q nd h
    have hnd : q.Nodup := List.pairwise_iff_getElem.2 fun i j hi hj hij e => by
      have := nd i j q[i] (List.getElem?_eq_getElem hi) (by rw [e]; exact List.getElem?_eq_getElem hj)
      omega
    have hnd2 := hnd.erase N
    have h1 := ih (q.erase N) (fun i j x hi hj => by
      have l1 := (List.getElem?_eq_some_iff.1 hi).1
      exact (List.getElem?_inj l1 hnd2).1 (hi.trans hj.symm)) (fun s hs => by
      rw [hnd.mem_erase_iff] at hs
      have := h s hs.2
      omega)
    by_cases c : N ∈ q
    · rw [List.length_erase_of_mem c] at h1; omega
    · rw [List.erase_of_not_mem c] at h1; omega
theorem Cls.len {bs : List Nat} {cl : Nat → Nat} (h : Cls bs cl) : bs.length ≤ 256 :=
  len_of_inj 256 bs (fun i j x hi hj => by have h1 := (h.a i x hi).2; have h2 := (h.a j x hj).2; omega) (fun s hs => by obtain ⟨i, hi⟩ := List.mem_iff_getElem?.1 hs; exact (h.a i s hi).1)

/-- the memory as makeDense finds and leaves it -/
structure DM (F SB EB N M ks ke : Nat) (st : Nat → Nat → Int) (ed : Nat → Nat × Nat) (sta : Nat → Nat) (TB : Nat) (tv : Value) (cl : Nat → Nat) (vD : Value) (nc : Nat) (w : World) : Prop where
  fm : FM F SB EB N M ks ke st ed sta w
  c0 : w.cell? ⟨F, 0, none⟩ = some tv
  cD : w.cell? ⟨F, 259, none⟩ = some vD
  cC : ∀ b, b < 256 → w.cell? ⟨F, 260 + b, none⟩ = some (.int .u16 (cl b))
  cN : w.cell? ⟨F, 516, none⟩ = some (.int .i64 nc)
  tB : tyOf w TB = some 43
  bx : w.cell? ⟨TB, 0, none⟩ = some (.pointer (some ⟨F, 0, none⟩))
section
variable {F SB EB N M ks ke : Nat} {st : Nat → Nat → Int} {ed : Nat → Nat × Nat} {sta : Nat → Nat} {w w' : World} {TB : Nat} {tv : Value} {cl : Nat → Nat} {vD : Value} {nc : Nat}

theorem FM.setF (h : FM F SB EB N M ks ke st ed sta w) {o : Nat} (ho : 259 ≤ o) (v : Value) : FM F SB EB N M ks ke st ed sta (w.setCell ⟨F, o, none⟩ v) := by
  have n1 := tyOf_ne h.tS h.tF (by decide)
  have n2 := tyOf_ne h.tE h.tF (by decide)
  have hc : ∀ p v', p < 259 → w.cell? ⟨F, p, none⟩ = some v' → (w.setCell ⟨F, o, none⟩ v).cell? ⟨F, p, none⟩ = some v' := fun p v' hp hv => (World.cell?_setCell_other _ _ _ _ (fun x => by simp only [Addr.mk.injEq, true_and, and_true] at x; omega)).trans hv
  exact ⟨(set_ty h.tF).trans h.tF, hc 1 _ (by omega) h.cS, hc 2 _ (by omega) h.cE, fun b hb => hc _ _ (by omega) (h.cA b hb), (set_ty h.tF).trans h.tS, fun s f hs hf => (set_cell_ne n1).trans (h.cs s f hs hf), (set_ty h.tF).trans h.tE, fun j hj => ⟨(set_cell_ne n2).trans (h.ce j hj).1, (set_cell_ne n2).trans (h.ce j hj).2⟩, h.mc, h.N6, h.M6⟩
theorem DM.kept {S : Nat → Prop} (h : DM F SB EB N M ks ke st ed sta TB tv cl vD nc w) (k : Kept S w w') (h1 : ¬ S F) (h2 : ¬ S SB) (h3 : ¬ S EB) (h4 : ¬ S TB) : DM F SB EB N M ks ke st ed sta TB tv cl vD nc w' := by
  have e1 := k.block F (tyOf_lt h.fm.tF) h1
  have e4 := k.block TB (tyOf_lt h.tB) h4
  exact ⟨h.fm.kept k h1 h2 h3, (World.cell?_of_block e1).trans h.c0, (World.cell?_of_block e1).trans h.cD, fun b hb => (World.cell?_of_block e1).trans (h.cC b hb), (World.cell?_of_block e1).trans h.cN, (tyOf_congr e4).trans h.tB, (World.cell?_of_block e4).trans h.bx⟩
theorem DM.new (h : DM F SB EB N M ks ke st ed sta TB tv cl vD nc w) (b : Below w.heap.size w w') : DM F SB EB N M ks ke st ed sta TB tv cl vD nc w' := h.kept (Kept.of_below b) (fun x => x) (fun x => x) (fun x => x) (fun x => x)
theorem DM.other {b o : Nat} {v : Value} {t : TypeId} (h : DM F SB EB N M ks ke st ed sta TB tv cl vD nc w) (ht : tyOf w b = some t) (hn : t ≠ 36 ∧ t ≠ 47 ∧ t ≠ 54 ∧ t ≠ 43) : DM F SB EB N M ks ke st ed sta TB tv cl vD nc (w.setCell ⟨b, o, none⟩ v) :=
  h.kept ((Kept.refl (fun k => k = b) w).setCell rfl v) (fun e => tyOf_ne h.fm.tF ht (fun x => hn.1 x.symm) e) (fun e => tyOf_ne h.fm.tS ht (fun x => hn.2.1 x.symm) e) (fun e => tyOf_ne h.fm.tE ht (fun x => hn.2.2.1 x.symm) e) (fun e => tyOf_ne h.tB ht (fun x => hn.2.2.2 x.symm) e)
theorem DM.nTB (h : DM F SB EB N M ks ke st ed sta TB tv cl vD nc w) : TB ≠ F := tyOf_ne h.tB h.fm.tF (by decide)
theorem DM.setC (h : DM F SB EB N M ks ke st ed sta TB tv cl vD nc w) (b v : Nat) (hb : b < 256) : DM F SB EB N M ks ke st ed sta TB tv (fun x => if x = b then v else cl x) vD nc (w.setCell ⟨F, 260 + b, none⟩ (.int .u16 v)) := by
  have hc : ∀ p v', p ≠ 260 + b → w.cell? ⟨F, p, none⟩ = some v' → (w.setCell ⟨F, 260 + b, none⟩ (.int .u16 v)).cell? ⟨F, p, none⟩ = some v' := fun p v' hp hv => (World.cell?_setCell_other _ _ _ _ (fun x => by simp only [Addr.mk.injEq, true_and, and_true] at x; omega)).trans hv
  refine ⟨h.fm.setF (by omega) _, hc _ _ (by omega) h.c0, hc _ _ (by omega) h.cD, fun x hx => ?_, hc _ _ (by omega) h.cN, (set_ty h.fm.tF).trans h.tB, (set_cell_ne h.nTB).trans h.bx⟩
  by_cases e : x = b
  · subst e
    rw [if_pos rfl]
    exact World.cell?_setCell_same _ _ _ (h.cC x hx)
  · rw [if_neg e]; exact hc _ _ (by omega) (h.cC x hx)
theorem DM.setN (h : DM F SB EB N M ks ke st ed sta TB tv cl vD nc w) (v : Nat) : DM F SB EB N M ks ke st ed sta TB tv cl vD v (w.setCell ⟨F, 516, none⟩ (.int .i64 v)) := by
  have hc : ∀ p v', p ≠ 516 → w.cell? ⟨F, p, none⟩ = some v' → (w.setCell ⟨F, 516, none⟩ (.int .i64 v)).cell? ⟨F, p, none⟩ = some v' := fun p v' hp hv => (World.cell?_setCell_other _ _ _ _ (fun x => by simp only [Addr.mk.injEq, true_and, and_true] at x; omega)).trans hv
  exact ⟨h.fm.setF (by omega) _, hc _ _ (by omega) h.c0, hc _ _ (by omega) h.cD, fun x hx => hc _ _ (by omega) (h.cC x hx), World.cell?_setCell_same _ _ _ h.cN, (set_ty h.fm.tF).trans h.tB, (set_cell_ne h.nTB).trans h.bx⟩
theorem DM.setD (h : DM F SB EB N M ks ke st ed sta TB tv cl vD nc w) (v : Value) : DM F SB EB N M ks ke st ed sta TB tv cl v nc (w.setCell ⟨F, 259, none⟩ v) := by
  have hc : ∀ p v', p ≠ 259 → w.cell? ⟨F, p, none⟩ = some v' → (w.setCell ⟨F, 259, none⟩ v).cell? ⟨F, p, none⟩ = some v' := fun p v' hp hv => (World.cell?_setCell_other _ _ _ _ (fun x => by simp only [Addr.mk.injEq, true_and, and_true] at x; omega)).trans hv
  exact ⟨h.fm.setF (by omega) _, hc _ _ (by omega) h.c0, World.cell?_setCell_same _ _ _ h.cD, fun x hx => hc _ _ (by omega) (h.cC x hx), hc _ _ (by omega) h.cN, (set_ty h.fm.tF).trans h.tB, (set_cell_ne h.nTB).trans h.bx⟩

/-- an even number's last bit is set -/
theorem or_one32 {x : Nat} (hx : 2 * x < 2147483648) : bits BinOp.or IntKind.i32 ((2 * x : Nat) : Int) 1 = ((2 * x + 1 : Nat) : Int) := by
  have e1 : (BitVec.ofInt 32 ((2 * x : Nat) : Int)).toNat = 2 * x := by
    rw [BitVec.ofInt_natCast, BitVec.toNat_ofNat]; omega
  have e2 : (BitVec.ofInt 32 1).toNat = 1 := by decide
  have e3 : (2 * x) ||| 1 = 2 * x + 1 := by
    have := Nat.two_pow_add_eq_or_of_lt (i := 1) (b := 1) (by decide) x
    simpa using this.symm
  show IntKind.i32.wrap (((BitVec.ofInt 32 ((2 * x : Nat) : Int)) ||| (BitVec.ofInt 32 1)).toNat : Nat) = _
  rw [BitVec.toNat_or, e1, e2, e3, IntKind.wrap_i32]
  omega
/-- a dense entry -/
def ent (st : Nat → Nat → Int) (nc t : Nat) : Int := 2 * ((t * nc : Nat) : Int) + (if 0 ≤ st t 4 then 1 else 0)
set_option maxHeartbeats 1000000 in
set_option maxRecDepth 100000 in
theorem entry_call (h : DM F SB EB N M ks ke st ed sta TB tv cl vD nc w) {t : Nat} (ht : t < N) (hN : N * nc ≤ 1048576) (hc : nc ≤ 257) : Calls Yba.prog 28 #[.int .i32 t, .pointer (some ⟨TB, 0, none⟩)] w fun e w' => e = .returned (.int .i32 (ent st nc t)) ∧ w' = w := by
  have hN6 := h.fm.N6
  have tI : (t : Int) < (N : Int) := by omega
  have t0 : (0 : Int) ≤ (t : Int) := by omega
  have b1 := h.bx
  have b2 := h.cN
  have b3 := h.fm.cS
  have b4 := h.fm.cs t 4 ht (by omega)
  have hcI : (nc : Int) ≤ 257 := by omega
  have hp : t * nc ≤ 1048576 := Nat.le_trans (Nat.mul_le_mul_right _ (by omega)) hN
  have e1 : IntKind.i32.wrap ((t : Int) * (nc : Int)) = ((t * nc : Nat) : Int) := by rw [IntKind.wrap_i32]; push_cast; omega
  have e2 : (t : Int) * (nc : Int) * 2 = ((2 * (t * nc) : Nat) : Int) := by push_cast; rw [Int.mul_comm]
  have e3 := or_one32 (x := t * nc) (by omega)
  have HE2 : Hid ((t : Int) * (nc : Int) * 2 = ((2 * (t * nc) : Nat) : Int)) := e2
  clear e2
  by_cases h4 : 0 ≤ st t 4
  · go_enter Yba.func28, Yba.ntmps28
    go_wp2_with fail
    (try simp only [Exit.inBlock, Exit.then])
    go_ret
    refine ⟨?_, rfl⟩
    show Ending.returned (Value.int .i32 (bits BinOp.or IntKind.i32 ((t : Int) * (nc : Int) * 2) 1)) = _
    unfold ent
    rw [if_pos h4, HE2.out, e3]
    push_cast
    rfl
  · have h5 : st t 4 < 0 := by omega
    go_enter Yba.func28, Yba.ntmps28
    go_wp2_with fail
    (try simp only [Exit.inBlock, Exit.then])
    go_ret
    refine ⟨?_, rfl⟩
    show Ending.returned (Value.int .i32 ((t : Int) * (nc : Int) * 2)) = _
    unfold ent
    rw [if_neg (show ¬ 0 ≤ st t 4 by omega), HE2.out, Int.add_zero]
    push_cast
    rfl
end
end Go.Proofs.Ybulkckss
