import Derived.Test.YbulkckycPlace
import Derived.Test.YbulkckycUnFin
namespace Go.Proofs.Ybulkckyc
open Go.RowKit
variable {w0 wx w : World} {W C G : Nat} {D : Dat}

/-- the slot s is in the queue -/
structure QRes (D D' : Dat) (qs qs' : List (Nat × Nat)) (s : Nat × Nat) : Prop where
  only : D' = { D with wc := D'.wc, rc := D'.rc, qv := D'.qv }
  rc : ∀ k o, 2 ≤ o % 4 → D'.rc k o = D.rc k o
  wc : ∀ o, o ≠ 17 → D'.wc 0 o = D.wc 0 o
  hi : HI D' qs'
  mem : ∀ x, x ∈ qs' ↔ x ∈ qs ∨ x = s
  len : qs'.length ≤ qs.length + 1
theorem QRes.refl {qs : List (Nat × Nat)} {s : Nat × Nat} (h : HI D qs) (hs : s ∈ qs) : QRes D D qs qs s :=
  ⟨rfl, fun _ _ _ => rfl, fun _ _ => rfl, h, fun _ => ⟨.inl, fun y => y.elim id (fun e => e ▸ hs)⟩, Nat.le_succ _⟩
theorem QRes.push {D2 : Dat} {qs qs' : List (Nat × Nat)} {s : Nat × Nat} {z : Value} (o : OnlyQ { D with rc := up2 D.rc s.1 (s.2 * 4) z } D2) (h : HI D2 qs') (sm : Same (qs ++ [s]) qs') : QRes D D2 qs qs' s := by
  refine ⟨?_, fun k p hp => ?_, o.2.2, h, fun x => ?_, by rw [sm.1]; simp⟩
  · rw [o.1]
  · exact (o.2.1 k p (by omega)).trans (up2_ne (fun x => by omega))
  · rw [sm.2]; simp

/-- what place leaves -/
structure PlRes (D D' : Dat) (L : Nat × Nat → List Nat) (qs qs' : List (Nat × Nat)) (s : Nat × Nat) (i : Nat) : Prop where
  only : D' = { D with wc := D'.wc, nl := D'.nl, rb := D'.rb, rc := D'.rc, lv := D'.lv, qv := D'.qv, ec := D'.ec }
  nl8 : D'.nl ≤ 8
  bs : s.1 < D'.nl ∧ s.2 < 20
  rb : ∀ k, k < D.nl → D'.rb k = D.rb k
  lv : D'.lv = (List.range D'.nl).map D'.ringV
  hi : HI D' qs'
  qm : ∀ x, x ∈ qs' ↔ x ∈ qs ∨ x = s
  ql : qs'.length ≤ qs.length + 1
  wc : ∀ o, o ≠ 16 → o ≠ 17 → D'.wc 0 o = D.wc 0 o
  hd : ∀ k j, k < D'.nl → j < 20 → Heads D' (k, j) (if (k, j) = s then L s ++ [i] else L (k, j))
  e1 : D'.ent i 1 = D'.slotP s
  ent1 : ∀ x, 1 ≤ x → x ≠ i → D'.ent x 1 = D.ent x 1
  ent : ∀ a f, 1 ≤ a → f < 5 → f ≠ 1 → D'.ent a f = if a = i ∧ f = 3 then i32v ((L s).getLastD 0) else if a = i ∧ f = 4 then i32v 0 else if a = (L s).getLastD 0 ∧ f = 4 then i32v i else D.ent a f

theorem heads_levels {D1 : Dat} {L : Nat × Nat → List Nat} {qs : List (Nat × Nat)} (h : HI D qs) (hql : ∀ s, s ∈ qs ↔ L s ≠ []) (hd : ∀ k j, k < D.nl → j < 20 → Heads D (k, j) (L (k, j))) (r : LvRes D D1) {k j : Nat} (hk : k < D1.nl) (hj : j < 20) : Heads D1 (k, j) (L (k, j)) := by
  by_cases e : k < D.nl
  · obtain ⟨h2, h3⟩ := hd k j e hj
    exact ⟨(r.rc _ _ e).trans h2, (r.rc _ _ e).trans h3⟩
  · have hL : L (k, j) = [] := by
      refine Classical.byContradiction fun hn => e ?_
      exact (h.bd (k, j) ((hql _).2 hn)).1
    rw [hL]
    refine ⟨(r.new k (j * 4 + 2) (by omega) hk (by omega)).trans ?_, (r.new k (j * 4 + 3) (by omega) hk (by omega)).trans ?_⟩
    · unfold ringC
      rw [if_neg (by omega), if_neg (by omega)]; rfl
    · unfold ringC
      rw [if_neg (by omega), if_neg (by omega)]; rfl

/-- the entry knows its slot -/
def slD (D : Dat) (i : Nat) (s : Nat × Nat) : Dat := { D with ec := up2 D.ec (i / 1024) (i % 1024 * 5 + 1) (D.slotP s) }
theorem slD_ent (D : Dat) (i : Nat) (s : Nat × Nat) {a f : Nat} (hf : f < 5) : (slD D i s).ent a f = if a = i ∧ f = 1 then D.slotP s else D.ent a f := ent_up _ _ _ _ _ _ (by omega) hf

theorem pl_fin {D1 D2 D3 : Dat} {L : Nat × Nat → List Nat} {qs qs' : List (Nat × Nat)} {k j i : Nat} (h : HI D qs) (hql : ∀ s, s ∈ qs ↔ L s ≠ []) (hd : ∀ k j, k < D.nl → j < 20 → Heads D (k, j) (L (k, j)))
    (r1 : LvRes D D1) (h8 : D1.nl ≤ 8) (hk : k < D1.nl) (hj : j < 20) (r2 : QRes D1 D2 qs qs' (k, j)) (r3 : PRes D2 D3 (k, j) (L (k, j)) i) : PlRes D (slD D3 i (k, j)) L qs qs' (k, j) i := by
  have n3 : D3.nl = D2.nl := by rw [r3.only]
  have n2 : D2.nl = D1.nl := by rw [r2.only]
  have b3 : D3.rb = D2.rb := by rw [r3.only]
  have b2 : D2.rb = D1.rb := by rw [r2.only]
  have l3 : D3.lv = D2.lv := by rw [r3.only]
  have l2 : D2.lv = D1.lv := by rw [r2.only]
  have w3 : D3.wc = D2.wc := by rw [r3.only]
  have q3 : D3.qv = D2.qv := by rw [r3.only]
  have e2 : D2.ec = D.ec := by rw [r2.only, r1.only]
  have en2 : ∀ a f, D2.ent a f = D.ent a f := fun a f => by unfold Dat.ent; rw [e2]
  refine ⟨?_, ?_, ?_, ?_, ?_, ?_, r2.mem, r2.len, ?_, ?_, ?_, ?_, ?_⟩
  · unfold slD; rw [r3.only, r2.only, r1.only]
  · show D3.nl ≤ 8; omega
  · show k < D3.nl ∧ j < 20; omega
  · intro x hx
    show D3.rb x = _
    rw [b3, b2]; exact r1.rb x hx
  · show D3.lv = (List.range D3.nl).map D3.ringV
    have e : D3.ringV = D1.ringV := by funext x; unfold Dat.ringV; rw [b3, b2]
    rw [e, l3, l2, n3, n2]; exact r1.lv
  · refine r2.hi.congr q3 b3 n3 (fun x o ho => ?_)
    exact r3.rest x o (fun y => by have := y.2; simp only at this; omega)
  · intro o h16 h17
    show D3.wc 0 o = _
    rw [w3]; exact (r2.wc o h17).trans (r1.wc o h16)
  · intro x y hx hy
    have hx1 : x < D1.nl := by rw [← n2, ← n3]; exact hx
    have H := heads_levels h hql hd r1 hx1 hy
    have H2 : D2.slt (x, y) 2 = i32v ((L (x, y)).headD 0) := (r2.rc _ _ (by simp only; omega)).trans H.1
    have H3 : D2.slt (x, y) 3 = i32v ((L (x, y)).getLastD 0) := (r2.rc _ _ (by simp only; omega)).trans H.2
    by_cases e : (x, y) = (k, j)
    · rw [if_pos e]
      obtain ⟨rfl, rfl⟩ := Prod.mk.inj e
      refine ⟨?_, ?_⟩
      · show D3.slt (x, y) 2 = _
        rw [r3.head, head_snoc]
        by_cases el : L (x, y) = []
        · rw [if_pos el, if_pos el]
        · rw [if_neg el, if_neg el]; exact H2
      · show D3.slt (x, y) 3 = _
        rw [r3.last, last_snoc]
    · rw [if_neg e]
      have hne : ∀ f, (f = 2 ∨ f = 3) → D3.rc x (y * 4 + f) = D2.rc x (y * 4 + f) := fun f hf => r3.rest _ _ (fun z => e (by
        have h1 := z.1
        have h2 := z.2
        simp only at h1 h2
        rw [h1, show y = j from by omega]))
      exact ⟨(hne 2 (.inl rfl)).trans H2, (hne 3 (.inr rfl)).trans H3⟩
  · rw [slD_ent _ _ _ (by omega), if_pos ⟨rfl, rfl⟩]; rfl
  · intro x x1 hx
    rw [slD_ent _ _ _ (by omega), if_neg (fun y => hx y.1)]
    rw [r3.ent x 1 x1 (by omega), if_neg (fun y => by omega), if_neg (fun y => by omega), if_neg (fun y => by omega)]; exact en2 x 1
  · intro a f ha hf h1
    rw [slD_ent _ _ _ hf, if_neg (fun y => h1 y.2), r3.ent a f ha hf, en2]
end Go.Proofs.Ybulkckyc
