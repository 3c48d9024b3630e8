import Derived.Test.YbulkckycHeap
namespace Go.Proofs.Ybulkckyc
open Go.RowKit
variable {w0 wx w : World} {W C G : Nat} {D : Dat} {qs : List (Nat × Nat)}

/-- nothing but the queue, its row and the slots' places is turned -/
def OnlyQ (D D' : Dat) : Prop := D' = { D with qv := D'.qv, rc := D'.rc, wc := D'.wc } ∧ (∀ k o, o % 4 ≠ 1 → D'.rc k o = D.rc k o) ∧ ∀ o, o ≠ 17 → D'.wc 0 o = D.wc 0 o
theorem Only1.toQ {D D' : Dat} (h : Only1 D D') : OnlyQ D D' := by
  refine ⟨?_, h.2, fun o _ => by rw [h.1]⟩
  have : D'.wc = D.wc := by rw [h.1]
  rw [this]; exact h.1
theorem OnlyQ.trans {D D1 D2 : Dat} (h : OnlyQ D D1) (h' : OnlyQ D1 D2) : OnlyQ D D2 := by
  refine ⟨?_, fun k o ho => (h'.2.1 k o ho).trans (h.2.1 k o ho), fun o ho => (h'.2.2 o ho).trans (h.2.2 o ho)⟩
  rw [h'.1, h.1]

theorem mem_take {qs : List (Nat × Nat)} {n : Nat} {A : Nat × Nat} (hA : qs[n]? = some A) (hn : qs.length = n + 1) (hnd : ∀ p, qs[p]? = some A → p = n) (s : Nat × Nat) : s ∈ qs.take n ↔ s ∈ qs ∧ s ≠ A := by
  rw [List.mem_iff_getElem?, List.mem_iff_getElem?]
  constructor
  · rintro ⟨p, hp⟩
    rw [List.getElem?_take] at hp
    by_cases hl : p < n
    · rw [if_pos hl] at hp
      exact ⟨⟨p, hp⟩, fun e => by have := hnd p (e ▸ hp); omega⟩
    · rw [if_neg hl] at hp; cases hp
  · rintro ⟨⟨p, hp⟩, hne⟩
    have hl := (List.getElem?_eq_some_iff.1 hp).1
    refine ⟨p, ?_⟩
    rw [List.getElem?_take, if_pos]
    · exact hp
    · by_cases e : p = n
      · subst e; rw [hA] at hp; cases hp; exact absurd rfl hne
      · omega

theorem pop_inv (h : HI D qs) {n : Nat} {A : Nat × Nat} (hA : qs[n]? = some A) (hn : qs.length = n + 1) (v : Value) :
    HI { D with qv := (D.qv.set n (.pointer none)).take n, wc := up2 D.wc 0 17 v, rc := up2 D.rc A.1 (A.2 * 4 + 1) (.int .i64 (-1)) } (qs.take n) := by
  have hm := mem_take hA hn (fun p hp => h.inj hp hA)
  have hAB2 : ∀ x y : Nat × Nat, (x.1 = y.1 ∧ x.2 * 4 + 1 = y.2 * 4 + 1) ↔ x = y := fun x y => by
    constructor
    · rintro ⟨a, b⟩; exact Prod.ext a (by omega)
    · rintro rfl; exact ⟨rfl, rfl⟩
  refine ⟨?_, fun s hs => h.bd s ((hm s).1 hs).1, fun p s hp => ?_, fun k l hk hl hs => ?_, fun k l hk hl => ?_, ?_⟩
  · show (D.qv.set n (.pointer none)).take n = (qs.take n).map D.slotP
    rw [h.qv, List.map_take]
    apply List.ext_getElem?
    intro p
    rw [List.getElem?_take, List.getElem?_take, List.getElem?_set]
    by_cases hl : p < n
    · rw [if_pos hl, if_pos hl, if_neg (by omega)]
    · rw [if_neg hl, if_neg hl]
  · show up2 D.rc A.1 (A.2 * 4 + 1) (.int .i64 (-1)) s.1 (s.2 * 4 + 1) = _
    have hne := ((hm s).1 (List.mem_of_getElem? hp)).2
    rw [List.getElem?_take] at hp
    by_cases hl : p < n
    · rw [if_pos hl] at hp
      rw [up2_ne (fun x => hne ((hAB2 _ _).1 x))]
      exact h.ix p s hp
    · rw [if_neg hl] at hp; cases hp
  · show up2 D.rc A.1 (A.2 * 4 + 1) (.int .i64 (-1)) k (l * 4 + 1) = _
    by_cases e : (k, l) = A
    · rw [← e, up2_same]
    · rw [up2_ne (fun x => e ((hAB2 (k, l) _).1 x))]
      exact h.ox k l hk hl (fun x => hs ((hm _).2 ⟨x, e⟩))
  · obtain ⟨z, hz⟩ := h.st k l hk hl
    refine ⟨z, ?_⟩
    show up2 D.rc A.1 (A.2 * 4 + 1) (.int .i64 (-1)) k (l * 4) = _
    rw [up2_ne (fun x => by omega)]; exact hz
  · have := h.ln
    simp; omega

theorem pop_call (h : HI D qs) (s : St w0 wx W C G D w) {n : Nat} {A : Nat × Nat} (hA : qs[n]? = some A) (hn : qs.length = n + 1) :
    Calls Yba.prog 78 #[.pointer (some ⟨W, 17, none⟩)] w fun e w' => (∃ v, e = .returned v) ∧ ∃ D', St w0 wx W C G D' w' ∧ HI D' (qs.take n) ∧ OnlyQ D D' := by
  obtain ⟨g, cap, hv, tg, hc, hrow⟩ := h.row s (by omega)
  obtain ⟨a1, a2⟩ := h.bd A (List.mem_of_getElem? hA)
  have tA := s.fR.ty _ a1
  have tW := s.fW.ty 0 (by omega)
  have hln := h.ln
  have c17 : w.cell? ⟨W, 17, none⟩ = some (D.wc 0 17) := s.fW.cell 0 17 (by omega) (by omega)
  rw [hv, hn] at c17
  refine (pop_walk W g n cap (D.rb A.1) (A.2 * 4) _ w (tyOf_ne tg tW (by decide)) (tyOf_ne tA tW (by decide)) (tyOf_ne tg tA (by decide)) (by omega) (by omega) c17 (tyOf_frozen tW) (hrow n A hA) (tyOf_frozen tg) (s.fR.cell _ _ a1 (by omega)) (tyOf_frozen tA)).mono ?_
  rintro e w' ⟨he, rfl⟩
  have s1 := s.rowQ hv n (.pointer none)
  have o1 := s1.oQ
  have e1 : ((D.qv.set n (.pointer none)).take n).length = n := by
    have := h.len
    simp; omega
  have o2 : (w.setCell ⟨g, n, none⟩ (.pointer none)).ownsRow w0.heap.size 93 1 (.slice (some ⟨g, 0, none⟩) n cap) ((D.qv.set n (.pointer none)).take n).length ((D.qv.set n (.pointer none)).take n) := by
    rw [e1]
    refine row_cut (n := n + 1) ?_ (by omega)
    have e2 : (D.qv.set n (.pointer none)).length = n + 1 := by rw [List.length_set, h.len, hn]
    rw [← e2]
    have o3 : (w.setCell ⟨g, n, none⟩ (.pointer none)).ownsRow w0.heap.size 93 1 (D.wc 0 17) (D.qv.set n (.pointer none)).length (D.qv.set n (.pointer none)) := o1
    rw [hv, hn] at o3
    rw [e2] at o3 ⊢
    exact o3
  refine ⟨he, _, ((s1.valQ (.slice (some ⟨g, 0, none⟩) n cap) _ o2).setR A.1 a1 (A.2 * 4 + 1) (.int .i64 (-1))), pop_inv h hA hn _, rfl, fun k o ho => ?_, fun o ho => ?_⟩
  · exact up2_ne (fun x => by omega)
  · exact up2_ne (fun x => ho x.2)

/-- the slot s joins the queue's end -/
theorem push_inv (h : HI D qs) {A : Nat × Nat} (hA : A ∉ qs) (hb : A.1 < D.nl ∧ A.2 < 20) (hl : qs.length < 2500) (v : Value) :
    HI { D with qv := D.qv ++ [D.slotP A], wc := up2 D.wc 0 17 v, rc := up2 D.rc A.1 (A.2 * 4 + 1) (.int .i64 qs.length) } (qs ++ [A]) := by
  have hAB2 : ∀ x y : Nat × Nat, (x.1 = y.1 ∧ x.2 * 4 + 1 = y.2 * 4 + 1) ↔ x = y := fun x y => by
    constructor
    · rintro ⟨a, b⟩; exact Prod.ext a (by omega)
    · rintro rfl; exact ⟨rfl, rfl⟩
  refine ⟨?_, fun s hs => ?_, fun p s hp => ?_, fun k l hk hl hs => ?_, fun k l hk hl => ?_, ?_⟩
  · show D.qv ++ [D.slotP A] = (qs ++ [A]).map D.slotP
    rw [h.qv]; simp
  · rw [List.mem_append, List.mem_singleton] at hs
    rcases hs with hs | rfl
    · exact h.bd s hs
    · exact hb
  · show up2 D.rc A.1 (A.2 * 4 + 1) (.int .i64 qs.length) s.1 (s.2 * 4 + 1) = _
    rw [List.getElem?_append] at hp
    by_cases hl : p < qs.length
    · rw [if_pos hl] at hp
      have hne : s ≠ A := fun e => hA (e ▸ List.mem_of_getElem? hp)
      rw [up2_ne (fun x => hne ((hAB2 _ _).1 x))]
      exact h.ix p s hp
    · rw [if_neg hl] at hp
      have e : p = qs.length := by
        have := (List.getElem?_eq_some_iff.1 hp).1
        simp at this; omega
      subst e
      simp at hp
      subst hp
      rw [up2_same]
  · show up2 D.rc A.1 (A.2 * 4 + 1) (.int .i64 qs.length) k (l * 4 + 1) = _
    rw [List.mem_append, List.mem_singleton] at hs
    rw [up2_ne (fun x => hs (.inr ((hAB2 (k, l) _).1 x)))]
    exact h.ox k l hk hl (fun x => hs (.inl x))
  · obtain ⟨z, hz⟩ := h.st k l hk hl
    refine ⟨z, ?_⟩
    show up2 D.rc A.1 (A.2 * 4 + 1) (.int .i64 qs.length) k (l * 4) = _
    rw [up2_ne (fun x => by omega)]; exact hz
  · simp; omega

theorem push_call (h : HI D qs) (s : St w0 wx W C G D w) {A : Nat × Nat} (hA : A ∉ qs) (hb : A.1 < D.nl ∧ A.2 < 20) (hl : qs.length < 2500) :
    Calls Yba.prog 79 #[.pointer (some ⟨W, 17, none⟩), .iface 93 (D.slotP A)] w fun e w' => e = .returned (.tuple #[]) ∧ ∃ D', St w0 wx W C G D' w' ∧ HI D' (qs ++ [A]) ∧ OnlyQ D D' := by
  obtain ⟨ad, cap, hv⟩ : ∃ ad cap, D.wc 0 17 = .slice ad qs.length cap := by
    rcases s.oQ.2 with ⟨h0, h1⟩ | ⟨g, cap, cur, h0, _⟩
    · exact ⟨none, 0, by rw [h0, ← h.len, h1]⟩
    · exact ⟨_, cap, by rw [h0, h.len]⟩
  have c17 : w.cell? ⟨W, 17, none⟩ = some (D.wc 0 17) := s.fW.cell 0 17 (by omega) (by omega)
  rw [hv] at c17
  have ho := s.oQ
  rw [hv, h.len] at ho
  refine (push_walk W qs.length cap (D.rb A.1) (A.2 * 4) w0.heap.size ad _ D.qv w (s.fR.ty _ hb.1) (s.fW.ty 0 (by omega)) (by omega) s.sz c17 (s.fR.cell _ _ hb.1 (by omega)) ho).mono ?_
  rintro e w' ⟨rfl, g', cap', wa, k, ho', rfl⟩
  have s1 := s.setR A.1 hb.1 (A.2 * 4 + 1) (.int .i64 qs.length)
  have k2 : Kept (fun j => (D.wc 0 17).ownBlock = some j) (w.setCell ⟨D.rb A.1, A.2 * 4 + 1, none⟩ (.int .i64 qs.length)) wa := by rw [hv]; exact k
  have e1 : (D.qv ++ [D.slotP A]).length = qs.length + 1 := by rw [List.length_append, h.len]; rfl
  refine ⟨rfl, _, s1.growQ k2 (.slice (some ⟨g', 0, none⟩) (qs.length + 1) cap') (D.qv ++ [D.slotP A]) (by rw [e1]; exact ho'), push_inv h hA hb hl _, rfl, fun k o ho => ?_, fun o ho => ?_⟩
  · exact up2_ne (fun x => by omega)
  · exact up2_ne (fun x => ho x.2)
end Go.Proofs.Ybulkckyc
