import Derived.Test.YbulkckycMeth
namespace Go.Proofs.Ybulkckyc
open Go.RowKit

/-- the queue: its row holds the slots' addresses, each slot its place -/
structure HI (D : Dat) (qs : List (Nat × Nat)) : Prop where
  qv : D.qv = qs.map D.slotP
  bd : ∀ s, s ∈ qs → s.1 < D.nl ∧ s.2 < 20
  ix : ∀ (p : Nat) s, qs[p]? = some s → D.rc s.1 (s.2 * 4 + 1) = .int .i64 p
  ox : ∀ k j, k < D.nl → j < 20 → (k, j) ∉ qs → D.rc k (j * 4 + 1) = .int .i64 (-1)
  st : ∀ k j, k < D.nl → j < 20 → ∃ z, D.rc k (j * 4) = .int .i64 z
  ln : qs.length ≤ 2500

/-- nothing but the queue's row and the slots' places is turned -/
def Only1 (D D' : Dat) : Prop := D' = { D with qv := D'.qv, rc := D'.rc } ∧ ∀ k o, o % 4 ≠ 1 → D'.rc k o = D.rc k o
theorem Only1.refl (D : Dat) : Only1 D D := ⟨rfl, fun _ _ _ => rfl⟩
theorem Only1.trans {D D1 D2 : Dat} (h : Only1 D D1) (h' : Only1 D1 D2) : Only1 D D2 := by
  refine ⟨?_, fun k o ho => (h'.2 k o ho).trans (h.2 k o ho)⟩
  rw [h'.1, h.1]

/-- the same slots in another order -/
def Same (qs qs' : List (Nat × Nat)) : Prop := qs'.length = qs.length ∧ ∀ s, s ∈ qs' ↔ s ∈ qs
theorem Same.refl (qs : List (Nat × Nat)) : Same qs qs := ⟨rfl, fun _ => Iff.rfl⟩
theorem Same.trans {a b c : List (Nat × Nat)} (h : Same a b) (h' : Same b c) : Same a c := ⟨h'.1.trans h.1, fun s => (h'.2 s).trans (h.2 s)⟩

def swp (qs : List (Nat × Nat)) (i j : Nat) : List (Nat × Nat) := (qs.set i (qs.getD j (0, 0))).set j (qs.getD i (0, 0))
theorem swp_len (qs : List (Nat × Nat)) (i j : Nat) : (swp qs i j).length = qs.length := by simp [swp]
theorem swp_get {qs : List (Nat × Nat)} {i j : Nat} {A B : Nat × Nat} (hi : qs[i]? = some A) (hj : qs[j]? = some B) (p : Nat) : (swp qs i j)[p]? = if p = j then some A else if p = i then some B else qs[p]? := by
  have li : i < qs.length := (List.getElem?_eq_some_iff.1 hi).1
  have lj : j < qs.length := (List.getElem?_eq_some_iff.1 hj).1
  unfold swp
  rw [List.getElem?_set, List.getElem?_set, List.getD_eq_getElem?_getD, List.getD_eq_getElem?_getD, hi, hj]
  simp only [List.length_set, Option.getD_some]
  by_cases e1 : p = j
  · subst e1; simp [lj]
  · rw [if_neg (fun x => e1 x.symm), if_neg e1]
    by_cases e2 : p = i
    · subst e2; simp [li]
    · rw [if_neg (fun x => e2 x.symm), if_neg e2]
theorem swp_same {qs : List (Nat × Nat)} {i j : Nat} {A B : Nat × Nat} (hi : qs[i]? = some A) (hj : qs[j]? = some B) : Same qs (swp qs i j) := by
  refine ⟨swp_len _ _ _, fun s => ?_⟩
  rw [List.mem_iff_getElem?, List.mem_iff_getElem?]
  constructor
  · rintro ⟨p, hp⟩
    rw [swp_get hi hj] at hp
    by_cases e1 : p = j
    · rw [if_pos e1] at hp; exact ⟨i, hi.trans hp⟩
    · rw [if_neg e1] at hp
      by_cases e2 : p = i
      · rw [if_pos e2] at hp; exact ⟨j, hj.trans hp⟩
      · rw [if_neg e2] at hp; exact ⟨p, hp⟩
  · rintro ⟨p, hp⟩
    by_cases e1 : p = j
    · subst e1
      by_cases e2 : p = i
      · subst e2; exact ⟨p, by rw [swp_get hi hj, if_pos rfl]; exact hi.symm.trans hp⟩
      · refine ⟨i, ?_⟩
        rw [swp_get hi hj, if_neg (fun x => e2 x.symm), if_pos rfl]; exact hj.symm.trans hp
    · by_cases e2 : p = i
      · subst e2
        refine ⟨j, ?_⟩
        rw [swp_get hi hj, if_pos rfl]; exact hi.symm.trans hp
      · exact ⟨p, by rw [swp_get hi hj, if_neg e1, if_neg e2]; exact hp⟩

variable {w0 wx w : World} {W C G : Nat} {D : Dat} {qs : List (Nat × Nat)}

theorem HI.inj (h : HI D qs) {p p' : Nat} {s : Nat × Nat} (h1 : qs[p]? = some s) (h2 : qs[p']? = some s) : p = p' := by
  have e := (h.ix p s h1).symm.trans (h.ix p' s h2)
  simp only [Value.int.injEq, true_and] at e
  omega
theorem HI.len (h : HI D qs) : D.qv.length = qs.length := by rw [h.qv]; simp

/-- the row of a queue that is not empty -/
theorem HI.row (h : HI D qs) (s : St w0 wx W C G D w) (hn : 0 < qs.length) : ∃ g cap, D.wc 0 17 = .slice (some ⟨g, 0, none⟩) qs.length cap ∧ tyOf w g = some 93 ∧ qs.length ≤ cap ∧ ∀ p A, qs[p]? = some A → w.cell? ⟨g, p, none⟩ = some (D.slotP A) := by
  obtain ⟨g, cap, h1, h2, _, h4, _, h6⟩ := row_at s.oQ (by rw [h.len]; exact hn)
  rw [h.len] at h1 h4 h6
  refine ⟨g, cap, h1, h2, h4, fun p A hp => ?_⟩
  rw [h6 p (List.getElem?_eq_some_iff.1 hp).1, h.qv, List.getElem?_map, hp]
  rfl

theorem swap_inv (h : HI D qs) {i j : Nat} {A B : Nat × Nat} (hi : qs[i]? = some A) (hj : qs[j]? = some B) (hij : i ≠ j) :
    HI { D with qv := (D.qv.set i (D.slotP B)).set j (D.slotP A), rc := up2 (up2 D.rc B.1 (B.2 * 4 + 1) (.int .i64 i)) A.1 (A.2 * 4 + 1) (.int .i64 j) } (swp qs i j) := by
  have hs := swp_same hi hj
  have hAB : A ≠ B := fun e => hij (h.inj hi (e ▸ hj))
  have hAB2 : ∀ x y : Nat × Nat, (x.1 = y.1 ∧ x.2 * 4 + 1 = y.2 * 4 + 1) ↔ x = y := fun x y => by
    constructor
    · rintro ⟨a, b⟩; exact Prod.ext a (by omega)
    · rintro rfl; exact ⟨rfl, rfl⟩
  refine ⟨?_, fun s hm => h.bd s ((hs.2 s).1 hm), fun p s hp => ?_, fun k l hk hl hm => ?_, fun k l hk hl => ?_, by rw [swp_len]; exact h.ln⟩
  · show (D.qv.set i (D.slotP B)).set j (D.slotP A) = (swp qs i j).map D.slotP
    unfold swp
    rw [List.map_set, List.map_set, ← h.qv, List.getD_eq_getElem?_getD, List.getD_eq_getElem?_getD, hi, hj]
    rfl
  · show up2 (up2 D.rc B.1 (B.2 * 4 + 1) (.int .i64 i)) A.1 (A.2 * 4 + 1) (.int .i64 j) s.1 (s.2 * 4 + 1) = _
    rw [swp_get hi hj] at hp
    by_cases e1 : p = j
    · rw [if_pos e1] at hp; cases hp; rw [up2_same, e1]
    · rw [if_neg e1] at hp
      by_cases e2 : p = i
      · rw [if_pos e2] at hp; cases hp
        rw [up2_ne (fun x => hAB ((hAB2 _ _).1 x).symm), up2_same, e2]
      · rw [if_neg e2] at hp
        have n1 : s ≠ A := fun e => e2 (h.inj hp (e ▸ hi))
        have n2 : s ≠ B := fun e => e1 (h.inj hp (e ▸ hj))
        rw [up2_ne (fun x => n1 ((hAB2 _ _).1 x)), up2_ne (fun x => n2 ((hAB2 _ _).1 x))]
        exact h.ix p s hp
  · show up2 (up2 D.rc B.1 (B.2 * 4 + 1) (.int .i64 i)) A.1 (A.2 * 4 + 1) (.int .i64 j) k (l * 4 + 1) = _
    have hm' : (k, l) ∉ qs := fun x => hm ((hs.2 _).2 x)
    have n1 : (k, l) ≠ A := fun e => hm' (e ▸ List.mem_of_getElem? hi)
    have n2 : (k, l) ≠ B := fun e => hm' (e ▸ List.mem_of_getElem? hj)
    rw [up2_ne (fun x => n1 ((hAB2 (k, l) _).1 x)), up2_ne (fun x => n2 ((hAB2 (k, l) _).1 x))]
    exact h.ox k l hk hl hm'
  · obtain ⟨z, hz⟩ := h.st k l hk hl
    refine ⟨z, ?_⟩
    show up2 (up2 D.rc B.1 (B.2 * 4 + 1) (.int .i64 i)) A.1 (A.2 * 4 + 1) (.int .i64 j) k (l * 4) = _
    rw [up2_ne (fun x => by omega), up2_ne (fun x => by omega)]
    exact hz

theorem swap_only (D : Dat) (x y : List Value → List Value) {A B : Nat × Nat} (u v : Value) : Only1 D { D with qv := y (x D.qv), rc := up2 (up2 D.rc B.1 (B.2 * 4 + 1) u) A.1 (A.2 * 4 + 1) v } :=
  ⟨rfl, fun k o ho => by
    show up2 (up2 D.rc B.1 (B.2 * 4 + 1) u) A.1 (A.2 * 4 + 1) v k o = _
    rw [up2_ne (fun x => by omega), up2_ne (fun x => by omega)]⟩
end Go.Proofs.Ybulkckyc
