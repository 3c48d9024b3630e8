import Derived.Test.YbulkckycPlFin
namespace Go.Proofs.Ybulkckyc
open Go.RowKit
variable {w0 wx w : World} {W C G : Nat} {D : Dat}

/-- the timer knows its entry -/
def tmD (D : Dat) (a : Nat) : Dat := { D with tc := up2 D.tc a 3 (i32v (a + 1)) }
/-- counted in -/
def inD (D : Dat) (a : Nat) (cc : Nat → Nat → Value) : Dat := { D with cc := cc, wc := up2 D.wc 0 27 (.int .u64 ((a + 1 : Nat) : Int)) }

theorem inv_arm {cap a : Nat} {live : Nat → Bool} {L : Nat × Nat → List Nat} {qs qs' : List (Nat × Nat)} {D1 D3 : Dat} (h : Inv C G cap D a live L qs) (s : St w0 wx W C G D w) (hall : cnt live a = a) (ha : a < 2500) (hnt : a < D.nt) {due : Int} {sl : Nat × Nat}
    (r1 : TRes D D1 a due) (r2 : PlRes (tmD D1 a) D3 L qs qs' sl (a + 1)) {cc : Nat → Nat → Value} (hcc : ∃ z : Int, cc 0 0 = .int .i64 z) :
    Inv C G cap (inD D3 a cc) (a + 1) (upB live a true) (fun x => if x = sl then L sl ++ [a + 1] else L x) qs' := by
  have hcnt : cnt (upB live a true) (a + 1) = a + 1 := by rw [cnt_on, hall]
  have f27 : ∀ o, o ≠ 27 → (inD D3 a cc).wc 0 o = D3.wc 0 o := fun o ho => up2_ne (fun x => ho x.2)
  have fw : ∀ o, (o < 16 ∨ 21 < o) → o ≠ 27 → (inD D3 a cc).wc 0 o = D.wc 0 o := fun o ho h27 => (f27 o h27).trans ((r2.wc o (by omega) (by omega)).trans (r1.wc o (by omega)))
  have e_nc : D3.nc = D1.nc := by rw [r2.only]; rfl
  have e_cb : D3.cb = D1.cb := by rw [r2.only]; rfl
  have e_cv : D3.cv = D1.cv := by rw [r2.only]; rfl
  have e_nt : D3.nt = D.nt := by rw [r2.only]; show D1.nt = _; rw [r1.only]
  have e_tc : D3.tc = up2 D.tc a 3 (i32v (a + 1)) := by
    rw [r2.only]; show up2 D1.tc a 3 _ = _; rw [r1.only]
  have e_nl : D1.nl = D.nl := by rw [r1.only]
  have e_rb : D1.rb = D.rb := by rw [r1.only]
  have hmem : ∀ x y, y ∈ L x → y ≠ a + 1 ∧ y / 1024 < D.nc ∧ 1 ≤ y ∧ y ≤ a := fun x y hy => by
    obtain ⟨b1, b2, _⟩ := h.le x y hy
    have : y / 1024 < D.nc := by rcases h.nc with z | z <;> omega
    exact ⟨by omega, this, b1, b2⟩
  have hnil : ∀ x, a + 1 ∉ L x := fun x hx => (hmem x _ hx).1 rfl
  have hen1 : ∀ x y f, y ∈ L x → f < 5 → D1.ent y f = D.ent y f := fun x y f hy hf => r1.ent y f (hmem x y hy).1 (hmem x y hy).2.1 hf
  have hch1 : ∀ x, Chain D1.ent (L x) := fun x p e hp => by
    have := List.mem_of_getElem? hp
    rw [hen1 x e 3 this (by omega), hen1 x e 4 this (by omega)]; exact h.ch x p e hp
  have hlast : ∀ x y, y ∈ L x → y = (L sl).getLastD 0 → x = sl := fun x y hy e => by
    by_cases hn : L sl = []
    · rw [hn] at e
      have := (hmem x y hy).2.2.1
      have e0 : ([] : List Nat).getLastD 0 = 0 := rfl
      omega
    · obtain ⟨p, hp, _⟩ := getLastD_cons hn
      rw [← e] at hp
      exact h.one s hy (List.mem_of_getElem? hp)
  have hsP : ∀ x y, y ∈ L x → D3.slotP x = D.slotP x := fun x y hy => by
    have hb := (h.hi.bd x ((h.ql x).2 (List.ne_nil_of_mem hy))).1
    unfold Dat.slotP
    rw [r2.rb x.1 (show x.1 < D1.nl from by rw [e_nl]; exact hb)]
    show Value.pointer (some ⟨D1.rb x.1, _, _⟩) = _
    rw [e_rb]
  obtain ⟨h19, h20⟩ := h.ar hall
  refine ⟨r2.hi.congr rfl rfl rfl (fun _ _ _ => rfl), h.kon.of fw, r2.lv, r2.nl8, .inr ⟨by omega, e_nc.trans r1.nc⟩, ?_, by omega, ?_, ?_, ?_, r2.hd, ?_, ?_, ?_, ?_, ?_, ?_, ?_, ?_, ?_, hcc⟩
  · show a + 1 ≤ D3.nt; omega
  · intro _
    show D3.cv = (List.range D3.nc).map D3.chunkP
    have e : D3.chunkP = D1.chunkP := by funext c; unfold Dat.chunkP; rw [e_cb]
    rw [e, e_cv, e_nc]; exact r1.cv
  · intro i hi
    show D3.tc i 3 = _
    rw [e_tc]
    by_cases e : i = a
    · rw [e, up2_same]; simp [upB]
    · rw [up2_ne (fun x => e x.1), h.tm i (by omega)]
      have : upB live a true i = live i := by unfold upB; rw [if_neg e]
      rw [this]
  · intro x
    rw [r2.qm x]
    by_cases e : x = sl
    · rw [if_pos e]
      simp [e]
    · rw [if_neg e, h.ql x]
      exact ⟨fun y => y.elim id (fun z => absurd z e), .inl⟩
  · intro x
    by_cases e : x = sl
    · simp only [if_pos e]
      have key := chain_snoc (en' := fun a f => if f = 1 then D1.ent a f else D3.ent a f) (hch1 sl) (h.ij sl) (fun y hy => (hmem sl y hy).2.2.1) (hnil sl) (i := a + 1) (by omega) (fun b f hb hf => by
        by_cases f1 : f = 1
        · simp only [if_pos f1]
          rw [if_neg (fun y => by omega), if_neg (fun y => by omega), if_neg (fun y => by omega)]
        · simp only [if_neg f1]
          exact r2.ent b f hb hf f1)
      intro p b hp
      have := key p b hp
      exact this
    · simp only [if_neg e]
      intro p y hy
      have hym := List.mem_of_getElem? hy
      obtain ⟨n1, n2, n3, n4⟩ := hmem x y hym
      have n5 : y ≠ (L sl).getLastD 0 := fun z => e (hlast x y hym z)
      have g3 : D3.ent y 3 = D.ent y 3 := by
        rw [r2.ent y 3 n3 (by omega) (by omega), if_neg (fun z => n1 z.1), if_neg (fun z => n1 z.1), if_neg (fun z => n5 z.1)]
        exact hen1 x y 3 hym (by omega)
      have g4 : D3.ent y 4 = D.ent y 4 := by
        rw [r2.ent y 4 n3 (by omega) (by omega), if_neg (fun z => n1 z.1), if_neg (fun z => n1 z.1), if_neg (fun z => n5 z.1)]
        exact hen1 x y 4 hym (by omega)
      show D3.ent y 3 = _ ∧ D3.ent y 4 = _
      rw [g3, g4]
      exact h.ch x p y hy
  · intro x
    by_cases e : x = sl
    · simp only [if_pos e]; exact (h.ij sl).snoc (hnil sl)
    · simp only [if_neg e]; exact h.ij x
  · intro x y hy
    have old : y ∈ L x → 1 ≤ y ∧ y ≤ a + 1 ∧ D3.ent y 1 = D3.slotP x ∧ upB live a true (y - 1) = true := fun hy => by
      obtain ⟨n1, n2, n3, n4⟩ := hmem x y hy
      obtain ⟨_, _, b3, b4⟩ := h.le x y hy
      refine ⟨n3, by omega, ?_, ?_⟩
      · rw [r2.ent1 y n3 n1, hsP x y hy, ← b3]
        exact hen1 x y 1 hy (by omega)
      · unfold upB; rw [if_neg (by omega)]; exact b4
    by_cases e : x = sl
    · simp only [if_pos e] at hy
      rcases List.mem_append.1 hy with z | z
      · rw [← e] at z; exact old z
      · simp only [List.mem_cons, List.not_mem_nil, or_false] at z
        subst z
        refine ⟨by omega, by omega, ?_, ?_⟩
        · rw [e]; exact r2.e1
        · simp [upB]
    · simp only [if_neg e] at hy
      exact old hy
  · intro i hi hl
    by_cases e : i = a
    · refine ⟨sl, ?_⟩
      simp only [if_true]
      rw [e]; simp
    · have hl2 : live i = true := by
        unfold upB at hl; rw [if_neg e] at hl; exact hl
      obtain ⟨x, hx⟩ := h.ll i (by omega) hl2
      refine ⟨x, ?_⟩
      by_cases e2 : x = sl
      · simp only [if_pos e2]; rw [e2] at hx; exact List.mem_append.2 (.inl hx)
      · simp only [if_neg e2]; exact hx
  · refine (f27 21 (by decide)).trans ((r2.wc 21 (by decide) (by decide)).trans (r1.w21.trans ?_))
    rw [hcnt]
  · rw [hcnt]
    exact up2_same D3.wc 0 27 (.int .u64 ((a + 1 : Nat) : Int))
  · intro _
    exact ⟨(f27 19 (by decide)).trans ((r2.wc 19 (by decide) (by decide)).trans r1.w19), (f27 20 (by decide)).trans ((r2.wc 20 (by decide) (by decide)).trans ((r1.wc 20 (by omega)).trans h20))⟩
  · exact ⟨0, (f27 20 (by decide)).trans ((r2.wc 20 (by decide) (by decide)).trans ((r1.wc 20 (by omega)).trans h20))⟩
  · have := h.qa; have := r2.ql; omega
end Go.Proofs.Ybulkckyc
