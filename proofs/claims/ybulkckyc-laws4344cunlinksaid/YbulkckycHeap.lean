import Derived.Test.YbulkckycInv
namespace Go.Proofs.Ybulkckyc
open Go.RowKit
variable {w0 wx w : World} {W C G : Nat} {D : Dat} {qs : List (Nat × Nat)}

theorem St.drewN (h : St w0 wx W C G D w) (m : Nat) : St w0 wx W C G D (w.drewN m) := h.new ⟨rfl, rfl, rfl, Nat.le_refl _, fun _ _ => rfl⟩
theorem St.drew (h : St w0 wx W C G D w) : St w0 wx W C G D w.drew := h.new ⟨rfl, rfl, rfl, Nat.le_refl _, fun _ _ => rfl⟩

theorem less_call (h : HI D qs) (s : St w0 wx W C G D w) {i j : Nat} (hi : i < qs.length) (hj : j < qs.length) :
    Calls Yba.prog 73 #[D.wc 0 17, .int .i64 i, .int .i64 j] w fun e w' => (∃ b, e = .returned (.bool b)) ∧ St w0 wx W C G D w' := by
  obtain ⟨g, cap, hv, tg, hc, hrow⟩ := h.row s (by omega)
  obtain ⟨A, hA⟩ : ∃ A, qs[i]? = some A := ⟨_, List.getElem?_eq_getElem hi⟩
  obtain ⟨B, hB⟩ : ∃ B, qs[j]? = some B := ⟨_, List.getElem?_eq_getElem hj⟩
  obtain ⟨a1, a2⟩ := h.bd A (List.mem_of_getElem? hA)
  obtain ⟨b1, b2⟩ := h.bd B (List.mem_of_getElem? hB)
  obtain ⟨x, hx⟩ := h.st _ _ a1 a2
  obtain ⟨y, hy⟩ := h.st _ _ b1 b2
  rw [hv]
  refine (less_walk g qs.length cap i j (D.rb A.1) (A.2 * 4) (D.rb B.1) (B.2 * 4) x y w hi hj (hrow i A hA) (hrow j B hB) ((s.fR.cell _ _ a1 (by omega)).trans (by rw [hx])) ((s.fR.cell _ _ b1 (by omega)).trans (by rw [hy]))).mono ?_
  rintro e w' ⟨rfl, m, rfl⟩
  exact ⟨⟨_, rfl⟩, s.drewN m⟩

theorem swap_call (h : HI D qs) (s : St w0 wx W C G D w) {i j : Nat} (hi : i < qs.length) (hj : j < qs.length) (hij : i ≠ j) :
    Calls Yba.prog 74 #[D.wc 0 17, .int .i64 i, .int .i64 j] w fun e w' => e = .returned (.tuple #[]) ∧ ∃ D', St w0 wx W C G D' w' ∧ HI D' (swp qs i j) ∧ Only1 D D' := by
  obtain ⟨g, cap, hv, tg, hc, hrow⟩ := h.row s (by omega)
  obtain ⟨A, hA⟩ : ∃ A, qs[i]? = some A := ⟨_, List.getElem?_eq_getElem hi⟩
  obtain ⟨B, hB⟩ : ∃ B, qs[j]? = some B := ⟨_, List.getElem?_eq_getElem hj⟩
  obtain ⟨a1, a2⟩ := h.bd A (List.mem_of_getElem? hA)
  obtain ⟨b1, b2⟩ := h.bd B (List.mem_of_getElem? hB)
  have hAB : A ≠ B := fun e => hij (h.inj hA (e ▸ hB))
  have tA := s.fR.ty _ a1
  have tB := s.fR.ty _ b1
  rw [hv]
  refine (swap_walk g qs.length cap i j (D.rb A.1) (A.2 * 4) (D.rb B.1) (B.2 * 4) _ _ w hi hj hij (tyOf_ne tg tA (by decide)) (tyOf_ne tg tB (by decide)) (fun x => ?_) (hrow i A hA) (hrow j B hB) (s.fR.cell _ _ a1 (by omega)) (s.fR.cell _ _ b1 (by omega)) (tyOf_frozen tg) (tyOf_frozen tA) (tyOf_frozen tB)).mono ?_
  · simp only [Addr.mk.injEq, and_true] at x
    exact hAB (Prod.ext (s.fR.inj _ _ a1 b1 x.1) (by omega))
  rintro e w' ⟨rfl, rfl⟩
  refine ⟨rfl, _, ((((s.rowQ hv i (D.slotP B)).rowQ hv j (D.slotP A)).drew.setR B.1 b1 (B.2 * 4 + 1) (.int .i64 i)).setR A.1 a1 (A.2 * 4 + 1) (.int .i64 j)).drew, swap_inv h hA hB hij, swap_only D (fun l => l.set i (D.slotP B)) (fun l => l.set j (D.slotP A)) _ _⟩

/-- what heap.up and heap.down do to the queue -/
def Moved (w0 wx : World) (W C G : Nat) (D : Dat) (qs : List (Nat × Nat)) (ok : Nat → Prop) (w' : World) : Prop :=
  ∃ D' qs', St w0 wx W C G D' w' ∧ HI D' qs' ∧ Only1 D D' ∧ Same qs qs' ∧ ∀ p, ok p → qs'[p]? = qs[p]?

set_option maxHeartbeats 2000000 in
set_option maxRecDepth 100000 in
theorem hup_call (h : HI D qs) (s : St w0 wx W C G D w) {j : Nat} (hj : j < qs.length) :
    Calls Yba.prog 47 #[.iface 109 (.pointer (some ⟨W, 17, none⟩)), .int .i64 j] w fun e w' => e = .returned (.tuple #[]) ∧ Moved w0 wx W C G D qs (fun p => j < p) w' := by
  have hln := h.ln
  go_enter Yba.func47, Yba.ntmps47
  go_wp2_with fail
  go_loopw [1] (fun b wr => ∃ p : Nat, p ≤ j ∧ b = .int .i64 p ∧ Moved w0 wx W C G D qs (fun p => j < p) wr) (fun b _ => (intOf b).toNat)
  case atStart => exact ⟨j, Nat.le_refl _, rfl, D, qs, s, h, Only1.refl _, Same.refl _, fun _ _ => rfl⟩
  case round =>
    obtain ⟨p, hp, rfl, D', qs', s', h', o', sm, hk⟩ := hrel
    clear s h
    have hp2 : (p : Int) ≤ 2500 := by omega
    have c17 : wr.cell? ⟨W, 17, none⟩ = some (D'.wc 0 17) := s'.fW.cell 0 17 (by omega) (by omega)
    have hless := meth_val (W := W) Yba.mLess c17
    have hq : p < qs'.length := by rw [sm.1]; omega
    by_cases hp0 : p = 0
    · subst hp0
      go_wp2_with fail
      go_end0
      exact ⟨rfl, D', qs', s', h', o', sm, hk⟩
    · obtain ⟨q, hq1, hq2⟩ : ∃ q : Nat, ((p : Int) - 1).tdiv 2 = (q : Int) ∧ q < p := by
        refine ⟨(p - 1) / 2, ?_, by omega⟩
        have e : (p : Int) - 1 = ((p - 1 : Nat) : Int) := by omega
        rw [e]; rfl
      have hne : ((q : Int) == (p : Int)) = false := by simp; omega
      have L := less_call h' s' (i := p) (j := q) hq (by omega)
      clear c17
      go_wp2_with fail
      refine L.mono ?_
      rintro e w1 ⟨⟨b, rfl⟩, s1⟩
      have c17 : w1.cell? ⟨W, 17, none⟩ = some (D'.wc 0 17) := s1.fW.cell 0 17 (by omega) (by omega)
      have hswap := meth_val (W := W) Yba.mSwap c17
      have S := swap_call h' s1 (i := q) (j := p) (by omega) hq (by omega)
      clear c17 hless L
      cases b
      · go_wp2_with fail
        go_end0
        exact ⟨rfl, D', qs', s1, h', o', sm, hk⟩
      · go_wp2_with fail
        refine S.mono ?_
        rintro e w2 ⟨rfl, D2, s2, h2, o2⟩
        clear S hswap
        obtain ⟨A, hA⟩ : ∃ A, qs'[q]? = some A := ⟨_, List.getElem?_eq_getElem (by omega)⟩
        obtain ⟨B, hB⟩ : ∃ B, qs'[p]? = some B := ⟨_, List.getElem?_eq_getElem hq⟩
        go_wp2_with fail
        go_roundw
        case rel => exact ⟨q, by omega, rfl, D2, swp qs' q p, s2, h2, o'.trans o2, sm.trans (swp_same hA hB), fun r hr => by rw [swp_get hA hB, if_neg (by omega), if_neg (by omega)]; exact hk r hr⟩
        case measure => simp [intOf]; omega
end Go.Proofs.Ybulkckyc
