import Derived.Test.YbulkckycInvUn
namespace Go.Proofs.Ybulkckyc
open Go.RowKit
variable {w0 wx w : World} {W C G : Nat} {D : Dat}

theorem HI.congr {D D' : Dat} {qs : List (Nat × Nat)} (h : HI D qs) (hq : D'.qv = D.qv) (hrb : D'.rb = D.rb) (hnl : D'.nl = D.nl) (hrc : ∀ k o, o % 4 ≤ 1 → D'.rc k o = D.rc k o) : HI D' qs := by
  have hsP : D'.slotP = D.slotP := by funext x; unfold Dat.slotP; rw [hrb]
  refine ⟨by rw [hq, hsP]; exact h.qv, fun s hs => by rw [hnl]; exact h.bd s hs, fun p s hp => (hrc _ _ (by omega)).trans (h.ix p s hp), fun k j hk hj hn => (hrc _ _ (by omega)).trans (h.ox k j (by omega) hj hn), fun k j hk hj => ?_, h.ln⟩
  obtain ⟨z, hz⟩ := h.st k j (by omega) hj
  exact ⟨z, (hrc _ _ (by omega)).trans hz⟩

/-- what stands behind unlink, ahead of the count -/
structure Unl (w0 wx : World) (W C G cap : Nat) (D : Dat) (a : Nat) (live : Nat → Bool) (i : Nat) (w' : World) : Prop where
  out : ∃ D' L' qs', St w0 wx W C G D' w' ∧ D'.wc 0 27 = D.wc 0 27 ∧ D'.tb = D.tb ∧ D'.nt = D.nt ∧ Inv C G cap { D' with wc := up2 D'.wc 0 27 (.int .u64 (cnt (upB live i false) a)) } a (upB live i false) L' qs'

theorem unl_fin {cap a : Nat} {live : Nat → Bool} {L : Nat × Nat → List Nat} {qs qs' : List (Nat × Nat)} (h : Inv C G cap D a live L qs) (s : St w0 wx W C G D w) {i p k j : Nat} (hia : i < a) (hl : live i = true) (hp : (L (k, j))[p]? = some (i + 1)) (hk : k < D.nl) (hj : j < 20)
    {D1 D2 D4 : Dat} (r1 : LRes D D1 (k, j) (L (k, j)) p (i + 1)) (r2 : RRes D1 D2 (i + 1) (cnt live a)) (o4 : OnlyQ { D2 with tc := up2 D2.tc i 3 (.int .i32 0) } D4) (hHI : HI D4 qs')
    (hqs : ∀ x, x ∈ qs' ↔ x ∈ qs ∧ (x = (k, j) → (L (k, j)).eraseIdx p ≠ [])) (hqa : qs'.length ≤ qs.length) (cc : Nat → Nat → Value) (hcc : ∃ z : Int, cc 0 0 = .int .i64 z) {w' : World} (s' : St w0 wx W C G { D4 with cc := cc } w') : Unl w0 wx W C G cap D a live i w' := by
  have hc1 := cnt_off hia hl
  have f27 : ∀ o, o ≠ 27 → (up2 D4.wc 0 27 (.int .u64 (cnt (upB live i false) a))) 0 o = D4.wc 0 o := fun o ho => up2_ne (fun x => ho x.2)
  have f4 : ∀ o, o ≠ 17 → D4.wc 0 o = D2.wc 0 o := o4.2.2
  have f1 : D1.wc = D.wc := by rw [r1.only]
  have hpl := (List.getElem?_eq_some_iff.1 hp).1
  have rcs : ∀ k' o, o % 4 ≠ 1 → D4.rc k' o = D1.rc k' o := fun k' o ho => (o4.2.1 k' o ho).trans (by show D2.rc k' o = _; rw [r2.only])
  refine ⟨{ D4 with cc := cc }, fun x => if x = (k, j) then (L (k, j)).eraseIdx p else L x, qs', s', ?_, ?_, ?_, ?_⟩
  · exact (f4 27 (by decide)).trans ((r2.wc 27 (by omega)).trans (by rw [f1]))
  · show D4.tb = _; rw [o4.1]; show D2.tb = _; rw [r2.only]; show D1.tb = _; rw [r1.only]
  · show D4.nt = _; rw [o4.1]; show D2.nt = _; rw [r2.only]; show D1.nt = _; rw [r1.only]
  refine inv_unlink (D' := { D4 with cc := cc, wc := up2 D4.wc 0 27 (.int .u64 (cnt (upB live i false) a)) }) h s hia hl hp ?_ ?_ ?_ ?_ ?_ ?_ ?_ ?_ ?_ ?_ ?_ ?_ ?_ hqs hqa ?_ ?_ ?_ hcc
  · show D4.nl = _; rw [o4.1]; show D2.nl = _; rw [r2.only]; show D1.nl = _; rw [r1.only]
  · show D4.rb = _; rw [o4.1]; show D2.rb = _; rw [r2.only]; show D1.rb = _; rw [r1.only]
  · show D4.nc = _; rw [o4.1]; show D2.nc = _; rw [r2.only]; show D1.nc = _; rw [r1.only]
  · show D4.cb = _; rw [o4.1]; show D2.cb = _; rw [r2.only]; show D1.cb = _; rw [r1.only]
  · show D4.nt = _; rw [o4.1]; show D2.nt = _; rw [r2.only]; show D1.nt = _; rw [r1.only]
  · show D4.lv = _; rw [o4.1]; show D2.lv = _; rw [r2.only]; show D1.lv = _; rw [r1.only]
  · intro hpos
    show D4.cv = _
    have e1 : D4.cv = D2.cv := by rw [o4.1]
    rw [e1, r2.cv (by omega), r1.only]
  · exact hHI.congr rfl rfl rfl (fun _ _ _ => rfl)
  · intro o ho h27
    exact (f27 o h27).trans ((f4 o (by omega)).trans ((r2.wc o (by omega)).trans (by rw [f1])))
  · intro k' j' f hne hf hj'
    show D4.rc k' (j' * 4 + f) = D.rc k' (j' * 4 + f)
    rw [rcs _ _ (by omega)]
    refine r1.rest _ _ (fun x => hne ?_)
    have : j' = j := by
      have := x.2
      simp only at this
      omega
    rw [x.1, this]
  · refine ⟨?_, ?_⟩
    · show D4.rc k (j * 4 + 2) = _
      rw [rcs _ _ (by omega)]
      refine r1.head.trans ?_
      rw [head_erase]
      by_cases e : p = 0
      · rw [if_pos e, if_pos e]
      · rw [if_neg e, if_neg e]; exact (h.hd k j hk hj).1
    · show D4.rc k (j * 4 + 3) = _
      rw [rcs _ _ (by omega)]
      refine r1.last.trans ?_
      rw [last_erase hpl (fun x hx => (h.le _ x hx).1)]
      by_cases e : nx (L (k, j)) p = 0
      · rw [if_pos e, if_pos e]
      · rw [if_neg e, if_neg e]; exact (h.hd k j hk hj).2
  · intro x f hx1 hxe hf
    have e1 : D4.ent x f = D2.ent x f := by unfold Dat.ent; rw [o4.1]
    show D4.ent x f = _
    rw [e1, r2.ent x f hxe hf, r1.ent x f hx1 hf, if_neg (fun y => hxe y.1)]
  · intro j'
    have e1 : D4.tc = up2 D2.tc i 3 (.int .i32 0) := by rw [o4.1]
    have e2 : D2.tc = D.tc := by rw [r2.only]; show D1.tc = _; rw [r1.only]
    show D4.tc j' 3 = _
    rw [e1, e2]
    by_cases e : j' = i
    · rw [if_pos e, e, up2_same]; rfl
    · rw [if_neg e, up2_ne (fun x => e x.1)]
  · refine (f27 21 (by decide)).trans ((f4 21 (by decide)).trans (r2.use.trans ?_))
    rw [show cnt live a - 1 = cnt (upB live i false) a from by omega]
  · show up2 D4.wc 0 27 (.int .u64 (cnt (upB live i false) a)) 0 27 = _
    rw [up2_same]
  · obtain ⟨f, hf⟩ := r2.free
    exact ⟨f, (f27 20 (by decide)).trans ((f4 20 (by decide)).trans hf)⟩
end Go.Proofs.Ybulkckyc
