import Derived.Test.YbulkckycGhost
namespace Go.Proofs.Ybulkckyc
open Go.RowKit
variable {w0 wx w : World} {W C G : Nat} {D : Dat}

/-- what the putting of entry i at the end of slot s's list l leaves -/
structure PRes (D D' : Dat) (s : Nat × Nat) (l : List Nat) (i : Nat) : Prop where
  only : D' = { D with ec := D'.ec, rc := D'.rc }
  rest : ∀ k o, ¬ (k = s.1 ∧ (o = s.2 * 4 + 2 ∨ o = s.2 * 4 + 3)) → D'.rc k o = D.rc k o
  head : D'.slt s 2 = if l = [] then i32v i else D.slt s 2
  last : D'.slt s 3 = i32v i
  ent : ∀ a f, 1 ≤ a → f < 5 → D'.ent a f = if a = i ∧ f = 3 then i32v (l.getLastD 0) else if a = i ∧ f = 4 then i32v 0 else if a = l.getLastD 0 ∧ f = 4 then i32v i else D.ent a f

theorem getLastD_cons {l : List Nat} (h : l ≠ []) : ∃ p, l[p]? = some (l.getLastD 0) ∧ p + 1 = l.length := by
  refine ⟨l.length - 1, ?_, ?_⟩
  · rw [← List.getLast?_eq_getElem?, List.getLastD_eq_getLast?]
    cases hl : l.getLast? with
    | none => exact absurd (List.getLast?_eq_none_iff.1 hl) h
    | some x => rfl
  · have := List.length_pos_iff.2 h
    omega

theorem lpush_call (s : St w0 wx W C G D w) (hcv : D.cv = (List.range D.nc).map D.chunkP) {k j : Nat} (hk : k < D.nl) (hj : j < 20) {l : List Nat} {i : Nat} (hi1 : 1 ≤ i) (hi2 : i / 1024 < D.nc) (hil : i ∉ l) (hl : ∀ x, x ∈ l → 1 ≤ x ∧ x / 1024 < D.nc ∧ x < 2147483648) (ht : D.slt (k, j) 3 = i32v (l.getLastD 0)) :
    Calls Yba.prog 39 #[.pointer (some ⟨D.rb k, j * 4 + 2, none⟩), .pointer (some ⟨W, 18, none⟩), .int .i32 i, .pointer (some ⟨D.cb (i / 1024), i % 1024 * 5, none⟩)] w fun ex w' => ex = .returned (.tuple #[]) ∧ ∃ D', St w0 wx W C G D' w' ∧ PRes D D' (k, j) l i := by
  obtain ⟨g, cap, hv, tg, hcap, hrow⟩ := chunk_row s hcv (by omega)
  have tW := s.fW.ty 0 (by omega)
  have tR := s.fR.ty _ hk
  have tE := s.fE.ty _ hi2
  have c18 : w.cell? ⟨W, 18, none⟩ = some (.slice (some ⟨g, 0, none⟩) D.nc cap) := (s.fW.cell 0 18 (by omega) (by omega)).trans (by rw [hv])
  have hR := fun o (ho : o < 80) => s.fR.cell k o hk ho
  have hE := fun x f (hx : x / 1024 < D.nc) (hf : f < 5) => s.fE.cell (x / 1024) (x % 1024 * 5 + f) hx (by omega)
  have d3 := (hR (j * 4 + 3) (by omega)).trans (congrArg some ht)
  by_cases l0 : l = []
  · subst l0
    refine (push_empty W (D.rb k) (j * 4) (D.cb (i / 1024)) (i % 1024 * 5) i _ _ _ w (tyOf_ne tR tE (by decide)) d3 (hR _ (by omega)) (tyOf_frozen tR) (hE i 3 hi2 (by omega)) (hE i 4 hi2 (by omega)) (tyOf_frozen tE)).mono ?_
    rintro ex w' ⟨rfl, rfl⟩
    refine ⟨rfl, _, (((s.setE (i / 1024) hi2 (i % 1024 * 5 + 3) (.int .i32 0)).setE (i / 1024) hi2 (i % 1024 * 5 + 4) (.int .i32 0)).setR k hk (j * 4 + 2) (i32v i)).setR k hk (j * 4 + 3) (i32v i), rfl, ?_, ?_, ?_, ?_⟩
    · intro k' o h
      exact (up2_ne (fun x => h ⟨x.1, .inr x.2⟩)).trans (up2_ne (fun x => h ⟨x.1, .inl x.2⟩))
    · rw [if_pos rfl]
      exact (up2_ne (by omega)).trans (up2_same _ _ _ _)
    · exact up2_same _ _ _ _
    · intro a f ha hf
      refine (up3_ent (ec := D.ec) hf).trans ?_
      have e0 : ([] : List Nat).getLastD 0 = 0 := rfl
      rw [e0, if_neg (show ¬ (a = 0 ∧ f = 4) by omega)]
      by_cases e : a = i
      · by_cases h3 : f = 3
        · rw [if_pos ⟨e, .inl h3⟩, if_pos ⟨e, h3⟩]
        · by_cases h4 : f = 4
          · rw [if_pos ⟨e, .inr h4⟩, if_neg (fun x => h3 x.2), if_pos ⟨e, h4⟩]
          · rw [if_neg (fun x => by omega), if_neg (fun x => h3 x.2), if_neg (fun x => h4 x.2)]; rfl
      · rw [if_neg (fun x => e x.1), if_neg (fun x => e x.1), if_neg (fun x => e x.1)]; rfl
  · obtain ⟨p, hp, hp2⟩ := getLastD_cons l0
    obtain ⟨hx1, hx2, hx3⟩ := hl _ (List.mem_of_getElem? hp)
    have hxe : l.getLastD 0 ≠ i := fun x => hil (x ▸ List.mem_of_getElem? hp)
    generalize htl : l.getLastD 0 = t at *
    have tF := s.fE.ty _ hx2
    refine (push_more W (D.rb k) (j * 4) (D.cb (i / 1024)) (i % 1024 * 5) i t (D.cb (t / 1024)) (t % 1024 * 5) g D.nc cap _ _ _ w (tyOf_ne tR tE (by decide)) (tyOf_ne tR tF (by decide)) (tyOf_ne tW tE (by decide)) (tyOf_ne tg tE (by decide)) ?_ (by omega) d3 (tyOf_frozen tR) (hE i 3 hi2 (by omega)) (hE i 4 hi2 (by omega)) (tyOf_frozen tE) ⟨hx3, hx2⟩ c18 (hrow _ hx2) rfl (hE t 4 hx2 (by omega)) (tyOf_frozen tF)).mono ?_
    · rcases apart s hxe hx2 hi2 with h | h
      · exact .inl h
      · right; omega
    rintro ex w' ⟨rfl, rfl⟩
    refine ⟨rfl, _, (((s.setE (i / 1024) hi2 (i % 1024 * 5 + 3) (i32v t)).setE (i / 1024) hi2 (i % 1024 * 5 + 4) (.int .i32 0)).setE (t / 1024) hx2 (t % 1024 * 5 + 4) (i32v i)).setR k hk (j * 4 + 3) (i32v i), rfl, ?_, ?_, ?_, ?_⟩
    · intro k' o h
      exact up2_ne (fun x => h ⟨x.1, .inr x.2⟩)
    · rw [if_neg l0]
      exact up2_ne (by omega)
    · exact up2_same _ _ _ _
    · intro a f ha hf
      refine (ent_up (up2 (up2 D.ec (i / 1024) (i % 1024 * 5 + 3) (i32v t)) (i / 1024) (i % 1024 * 5 + 4) (.int .i32 0)) t a 4 f (i32v i) (by omega) hf).trans ?_
      rw [ent_up _ _ _ _ _ _ (by omega) hf, ent_up _ _ _ _ _ _ (by omega) hf, htl]
      by_cases e : a = i
      · rw [if_neg (fun x => hxe (x.1.symm.trans e)), if_neg (show ¬ (a = t ∧ f = 4) from fun x => hxe (x.1.symm.trans e))]
        by_cases h3 : f = 3
        · rw [if_neg (fun x => by omega), if_pos ⟨e, h3⟩, if_pos ⟨e, h3⟩]
        · by_cases h4 : f = 4
          · rw [if_pos ⟨e, h4⟩, if_neg (fun x => h3 x.2), if_pos ⟨e, h4⟩]; rfl
          · rw [if_neg (fun x => h4 x.2), if_neg (fun x => h3 x.2), if_neg (fun x => h3 x.2), if_neg (fun x => h4 x.2)]; rfl
      · rw [if_neg (show ¬ (a = i ∧ f = 4) from fun x => e x.1), if_neg (show ¬ (a = i ∧ f = 3) from fun x => e x.1), if_neg (show ¬ (a = i ∧ f = 3) from fun x => e x.1), if_neg (show ¬ (a = i ∧ f = 4) from fun x => e x.1)]; rfl
end Go.Proofs.Ybulkckyc
