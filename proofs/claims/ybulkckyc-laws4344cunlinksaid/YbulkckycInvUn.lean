import Derived.Test.YbulkckycState
namespace Go.Proofs.Ybulkckyc
open Go.RowKit
variable {w0 wx w : World} {W C G : Nat} {D : Dat}

theorem chain_erase2 {en en' : Nat → Nat → Value} {l : List Nat} {p e : Nat} (hc : Chain en l) (hi : Inj l) (h1 : ∀ x, x ∈ l → 1 ≤ x) (hp : l[p]? = some e)
    (hen : ∀ a f, 1 ≤ a → a ≠ e → f < 5 → en' a f = if a = pv l p ∧ f = 4 then i32v (nx l p) else if a = nx l p ∧ f = 3 then i32v (pv l p) else en a f) : Chain en' (l.eraseIdx p) := by
  have key := chain_erase (en' := fun a f => if a = e ∧ (f = 3 ∨ f = 4) then i32v 0 else if a = e then en a f else en' a f) hc hi h1 hp (fun a f ha hf => by
    by_cases ae : a = e
    · by_cases h34 : f = 3 ∨ f = 4
      · simp only [if_pos (And.intro ae h34)]
      · simp only [if_neg (fun x : a = e ∧ (f = 3 ∨ f = 4) => h34 x.2), if_pos ae]
        rw [if_neg (fun x => h34 (.inr x.2)), if_neg (fun x => h34 (.inl x.2))]
    · simp only [if_neg (fun x : a = e ∧ (f = 3 ∨ f = 4) => ae x.1), if_neg ae]
      exact hen a f ha ae hf)
  intro q x hq
  have hm := ((mem_erase hi hp x).1 (List.mem_of_getElem? hq)).2
  have := key q x hq
  simp only [hm, false_and, if_false] at this
  exact this

theorem inv_unlink {cap a : Nat} {live : Nat → Bool} {L : Nat × Nat → List Nat} {qs qs' : List (Nat × Nat)} {D' : Dat} (h : Inv C G cap D a live L qs) (s : St w0 wx W C G D w) {i p : Nat} {sl : Nat × Nat} (hia : i < a) (hl : live i = true) (hp : (L sl)[p]? = some (i + 1))
    (hnl : D'.nl = D.nl) (hrb : D'.rb = D.rb) (hnc : D'.nc = D.nc) (hcb : D'.cb = D.cb) (hnt : D'.nt = D.nt) (hlv : D'.lv = D.lv) (hcv : 0 < cnt (upB live i false) a → D'.cv = D.cv) (hHI : HI D' qs')
    (hwc : ∀ o, (o < 16 ∨ 21 < o) → o ≠ 27 → D'.wc 0 o = D.wc 0 o)
    (hrc : ∀ k j f, (k, j) ≠ sl → (f = 2 ∨ f = 3) → j < 20 → D'.slt (k, j) f = D.slt (k, j) f) (hhd : Heads D' sl ((L sl).eraseIdx p))
    (hent : ∀ x f, 1 ≤ x → x ≠ i + 1 → f < 5 → D'.ent x f = if x = pv (L sl) p ∧ f = 4 then i32v (nx (L sl) p) else if x = nx (L sl) p ∧ f = 3 then i32v (pv (L sl) p) else D.ent x f)
    (htc : ∀ j, D'.tc j 3 = if j = i then i32v 0 else D.tc j 3) (hqs : ∀ x, x ∈ qs' ↔ x ∈ qs ∧ (x = sl → (L sl).eraseIdx p ≠ [])) (hqa : qs'.length ≤ qs.length)
    (h21 : D'.wc 0 21 = i32v (cnt (upB live i false) a)) (h27 : D'.wc 0 27 = .int .u64 (cnt (upB live i false) a)) (h20 : ∃ f : Int, D'.wc 0 20 = .int .i32 f) (hcc : ∃ z : Int, D'.cc 0 0 = .int .i64 z) :
    Inv C G cap D' a (upB live i false) (fun x => if x = sl then (L sl).eraseIdx p else L x) qs' := by
  have hc1 := cnt_off hia hl
  have hca := cnt_le live a
  have hm := mem_erase (h.ij sl) hp
  have hsP : D'.slotP = D.slotP := by funext x; unfold Dat.slotP; rw [hrb]
  have hpv : ∀ x, 1 ≤ x → x = pv (L sl) p → x ∈ L sl := fun x hx e => by
    unfold pv at e
    by_cases p0 : p = 0
    · rw [if_pos p0] at e; omega
    · rw [if_neg p0] at e; exact List.mem_of_getElem? (getD_some e.symm hx)
  have hnx : ∀ x, 1 ≤ x → x = nx (L sl) p → x ∈ L sl := fun x hx e => List.mem_of_getElem? (getD_some e.symm hx)
  have hL : ∀ x y, y ∈ (if x = sl then (L sl).eraseIdx p else L x) → y ∈ L x ∧ y ≠ i + 1 := fun x y hy => by
    by_cases e : x = sl
    · rw [if_pos e] at hy; rw [e]; exact (hm y).1 hy
    · rw [if_neg e] at hy
      refine ⟨hy, fun ey => e ?_⟩
      rw [ey] at hy
      exact h.one s hy (List.mem_of_getElem? hp)
  refine ⟨hHI, h.kon.of hwc, ?_, by rw [hnl]; exact h.nl, by rw [hnc]; exact h.nc, by rw [hnt]; exact h.nt, h.a25, ?_, ?_, ?_, ?_, ?_, ?_, ?_, ?_, h21, h27, ?_, h20, by have := h.qa; omega, hcc⟩
  · have e : D'.ringV = D.ringV := by funext k; unfold Dat.ringV; rw [hrb]
    rw [hlv, hnl, e]; exact h.lv
  · intro hpos
    have e : D'.chunkP = D.chunkP := by funext k; unfold Dat.chunkP; rw [hcb]
    rcases hpos with hpos | h0
    · rw [hcv hpos, hnc, e]; exact h.cv (.inl (by omega))
    · omega
  · intro j hj
    rw [htc]
    by_cases e : j = i
    · rw [if_pos e, e]; simp [upB]
    · rw [if_neg e, h.tm j hj]
      have : upB live i false j = live j := by unfold upB; rw [if_neg e]
      rw [this]
  · intro x
    rw [hqs x]
    by_cases e : x = sl
    · rw [if_pos e]
      constructor
      · exact fun y => y.2 e
      · intro y
        refine ⟨?_, fun _ => y⟩
        rw [e]; exact (h.ql sl).2 (List.ne_nil_of_mem (List.mem_of_getElem? hp))
    · rw [if_neg e, h.ql x]
      exact ⟨fun y => y.1, fun y => ⟨y, fun z => absurd z e⟩⟩
  · intro k j hk hj
    by_cases e : (k, j) = sl
    · rw [if_pos e, e]; exact hhd
    · rw [if_neg e]
      have hh := h.hd k j (by omega) hj
      exact ⟨(hrc k j 2 e (.inl rfl) hj).trans hh.1, (hrc k j 3 e (.inr rfl) hj).trans hh.2⟩
  · intro x
    by_cases e : x = sl
    · rw [if_pos e]
      exact chain_erase2 (h.ch sl) (h.ij sl) (fun y hy => (h.le sl y hy).1) hp hent
    · rw [if_neg e]
      intro q y hy
      have hym := List.mem_of_getElem? hy
      have h1 := (h.le x y hym).1
      have n1 : y ≠ i + 1 := (hL x y (by rw [if_neg e]; exact hym)).2
      have n2 : y ≠ pv (L sl) p := fun ey => e (h.one s hym (hpv y h1 ey))
      have n3 : y ≠ nx (L sl) p := fun ey => e (h.one s hym (hnx y h1 ey))
      rw [hent y 3 h1 n1 (by omega), hent y 4 h1 n1 (by omega), if_neg (fun z => n2 z.1), if_neg (fun z => n3 z.1), if_neg (fun z => n2 z.1), if_neg (fun z => n3 z.1)]
      exact h.ch x q y hy
  · intro x
    by_cases e : x = sl
    · rw [if_pos e]; exact (h.ij sl).erase p
    · rw [if_neg e]; exact h.ij x
  · intro x y hy
    obtain ⟨hy1, hy2⟩ := hL x y hy
    obtain ⟨b1, b2, b3, b4⟩ := h.le x y hy1
    refine ⟨b1, b2, ?_, ?_⟩
    · rw [hent y 1 b1 hy2 (by omega), if_neg (fun z => by omega), if_neg (fun z => by omega), hsP]; exact b3
    · unfold upB; rw [if_neg (by omega)]; exact b4
  · intro j hj hlj
    have e : j ≠ i := fun x => by rw [x] at hlj; simp [upB] at hlj
    have hlj2 : live j = true := by
      unfold upB at hlj; rw [if_neg e] at hlj; exact hlj
    obtain ⟨x, hx⟩ := h.ll j hj hlj2
    refine ⟨x, ?_⟩
    by_cases e2 : x = sl
    · rw [if_pos e2]; rw [e2] at hx; exact (hm _).2 ⟨hx, by omega⟩
    · rw [if_neg e2]; exact hx
  · intro e; omega
end Go.Proofs.Ybulkckyc
