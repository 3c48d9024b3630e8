import Derived.Test.YbulkckycTakeNew
namespace Go.Proofs.Ybulkckyc
open Go.RowKit
variable {w0 wx w : World} {W C G : Nat} {D : Dat}

/-- what take leaves: entry a + 1 is new -/
structure TRes (D D' : Dat) (a : Nat) (due : Int) : Prop where
  only : D' = { D with wc := D'.wc, nc := D'.nc, cb := D'.cb, ec := D'.ec, cv := D'.cv }
  nc : D'.nc = (a + 1) / 1024 + 1
  cv : D'.cv = (List.range D'.nc).map D'.chunkP
  cb : ∀ c, c < D.nc → D'.cb c = D.cb c
  wc : ∀ o, (o < 18 ∨ 21 < o ∨ o = 20) → D'.wc 0 o = D.wc 0 o
  w19 : D'.wc 0 19 = i32v (a + 1)
  w21 : D'.wc 0 21 = i32v (a + 1)
  ent : ∀ e f, e ≠ a + 1 → e / 1024 < D.nc → f < 5 → D'.ent e f = D.ent e f
  due : D'.ent (a + 1) 2 = .int .i64 due

theorem ent5_2 {ec : Nat → Nat → Value} {e : Nat} {v0 v1 v2 v3 v4 : Value} :
    up2 (up2 (up2 (up2 (up2 ec (e / 1024) (e % 1024 * 5 + 0) v0) (e / 1024) (e % 1024 * 5 + 1) v1) (e / 1024) (e % 1024 * 5 + 2) v2) (e / 1024) (e % 1024 * 5 + 3) v3) (e / 1024) (e % 1024 * 5 + 4) v4 (e / 1024) (e % 1024 * 5 + 2) = v2 := by
  rw [ent_up _ _ _ _ _ _ (by omega) (by omega), if_neg (fun x => by omega), ent_up _ _ _ _ _ _ (by omega) (by omega), if_neg (fun x => by omega), ent_up _ _ _ _ _ _ (by omega) (by omega), if_pos ⟨rfl, rfl⟩]

/-- what stands behind take's plain writes -/
def takD (D : Dat) (a : Nat) (tv : Value) (due : Int) : Dat := { D with ec := up2 (up2 (up2 (up2 (up2 D.ec ((a + 1) / 1024) ((a + 1) % 1024 * 5 + 0) tv) ((a + 1) / 1024) ((a + 1) % 1024 * 5 + 1) (.pointer none)) ((a + 1) / 1024) ((a + 1) % 1024 * 5 + 2) (.int .i64 due)) ((a + 1) / 1024) ((a + 1) % 1024 * 5 + 3) (.int .i32 0)) ((a + 1) / 1024) ((a + 1) % 1024 * 5 + 4) (.int .i32 0), wc := up2 D.wc 0 21 (i32v (a + 1)) }
theorem takD_st (s : St w0 wx W C G D w) {a : Nat} (he : (a + 1) / 1024 < D.nc) (tv : Value) (due : Int) : St w0 wx W C G (takD D a tv due) ((((((w.setCell ⟨W, 21, none⟩ (i32v (a + 1))).setCell ⟨D.cb ((a + 1) / 1024), (a + 1) % 1024 * 5, none⟩ tv).setCell ⟨D.cb ((a + 1) / 1024), (a + 1) % 1024 * 5 + 1, none⟩ (.pointer none)).setCell ⟨D.cb ((a + 1) / 1024), (a + 1) % 1024 * 5 + 2, none⟩ (.int .i64 due)).setCell ⟨D.cb ((a + 1) / 1024), (a + 1) % 1024 * 5 + 3, none⟩ (.int .i32 0)).setCell ⟨D.cb ((a + 1) / 1024), (a + 1) % 1024 * 5 + 4, none⟩ (.int .i32 0)) :=
  (((((s.setW 21 (i32v (a + 1)) (by decide) (by decide) (by decide)).setE ((a + 1) / 1024) he ((a + 1) % 1024 * 5 + 0) tv).setE ((a + 1) / 1024) he ((a + 1) % 1024 * 5 + 1) (.pointer none)).setE ((a + 1) / 1024) he ((a + 1) % 1024 * 5 + 2) (.int .i64 due)).setE ((a + 1) / 1024) he ((a + 1) % 1024 * 5 + 3) (.int .i32 0)).setE ((a + 1) / 1024) he ((a + 1) % 1024 * 5 + 4) (.int .i32 0)
theorem takD_wc {a o : Nat} {tv : Value} {due : Int} (h : o ≠ 21) : (takD D a tv due).wc 0 o = D.wc 0 o := up2_ne (fun x => h x.2)
theorem takD_21 {a : Nat} {tv : Value} {due : Int} : (takD D a tv due).wc 0 21 = i32v (a + 1) := by
  show up2 D.wc 0 21 (i32v (a + 1)) 0 21 = _
  rw [up2_same]
theorem takD_ent {a e f : Nat} {tv : Value} {due : Int} (h : e ≠ a + 1) (hf : f < 5) : (takD D a tv due).ent e f = D.ent e f := ent5 h hf
theorem takD_due {a : Nat} {tv : Value} {due : Int} : (takD D a tv due).ent (a + 1) 2 = .int .i64 due := ent5_2

/-- a new chunk at B -/
def newD (D : Dat) (a B : Nat) (d : Nat → Value) (v : Value) : Dat := { D with wc := up2 (up2 D.wc 0 19 (i32v (a + 1))) 0 18 v, nc := D.nc + 1, cb := fun k => if k = D.nc then B else D.cb k, ec := fun k o => if k = D.nc then d o else D.ec k o, cv := D.cv ++ [.pointer (some ⟨B, 0, none⟩)] }
theorem newD_cb {a B : Nat} {d : Nat → Value} {v : Value} (h : (a + 1) / 1024 = D.nc) : (newD D a B d v).cb ((a + 1) / 1024) = B := by
  show (if (a + 1) / 1024 = D.nc then B else _) = B
  rw [if_pos h]
theorem newD_wc {a B o : Nat} {d : Nat → Value} {v : Value} (h : o ≠ 18) (h' : o ≠ 19) : (newD D a B d v).wc 0 o = D.wc 0 o := (up2_ne (fun x => h x.2)).trans (up2_ne (fun x => h' x.2))
theorem newD_19 {a B : Nat} {d : Nat → Value} {v : Value} : (newD D a B d v).wc 0 19 = i32v (a + 1) := by
  show up2 (up2 D.wc 0 19 (i32v (a + 1))) 0 18 v 0 19 = _
  rw [up2_ne (by omega), up2_same]
theorem newD_ent {a B e f : Nat} {d : Nat → Value} {v : Value} (h : e / 1024 < D.nc) : (newD D a B d v).ent e f = D.ent e f := by
  show (if e / 1024 = D.nc then _ else D.ec (e / 1024) (e % 1024 * 5 + f)) = _
  rw [if_neg (by omega)]; rfl
theorem newD_cv {a B : Nat} {d : Nat → Value} {v : Value} (h : D.cv = (List.range D.nc).map D.chunkP) : (newD D a B d v).cv = (List.range (D.nc + 1)).map (newD D a B d v).chunkP := by
  show D.cv ++ [.pointer (some ⟨B, 0, none⟩)] = _
  rw [List.range_succ, List.map_append, h]
  congr 1
  · apply List.map_congr_left
    intro c hc
    have : c < D.nc := List.mem_range.1 hc
    show Value.pointer _ = Value.pointer (some ⟨if c = D.nc then B else D.cb c, 0, none⟩)
    rw [if_neg (by omega)]
  · show _ = [Value.pointer (some ⟨if D.nc = D.nc then B else D.cb D.nc, 0, none⟩)]
    rw [if_pos rfl]

theorem take_call {cap a : Nat} {live : Nat → Bool} {L : Nat × Nat → List Nat} {qs : List (Nat × Nat)} (h : Inv C G cap D a live L qs) (s : St w0 wx W C G D w) (hall : cnt live a = a) (ha : a < 2500) (tp : Option Addr) (due : Int) :
    Calls Yba.prog 17 #[.pointer (some ⟨W, 18, none⟩), .pointer tp, .int .i64 due] w fun e w' => ∃ D', e = .returned (.tuple #[.int .i32 (a + 1 : Nat), .pointer (some ⟨D'.cb ((a + 1) / 1024), (a + 1) % 1024 * 5, none⟩)]) ∧ St w0 wx W C G D' w' ∧ TRes D D' a due := by
  have hcv := h.cv (by omega)
  obtain ⟨h19, h20⟩ := h.ar hall
  have h21 := h.u21
  rw [hall] at h21
  have tW := s.fW.ty 0 (by omega)
  have hW := fun o (ho : o < 41) => s.fW.cell 0 o (by omega) ho
  have c19 := (hW 19 (by omega)).trans (congrArg some h19)
  have c20 := (hW 20 (by omega)).trans (congrArg some h20)
  have c21 := (hW 21 (by omega)).trans (congrArg some h21)
  by_cases hold : (a + 1) / 1024 < D.nc
  · obtain ⟨g, gcap, hv, tg, hcap, hrow⟩ := chunk_row s hcv (by omega)
    have c18 := (hW 18 (by omega)).trans (congrArg some hv)
    have tE := s.fE.ty _ hold
    have hE := fun f (hf : f < 5) => s.fE.cell ((a + 1) / 1024) ((a + 1) % 1024 * 5 + f) hold (by omega)
    refine (take_old W g D.nc gcap (D.cb ((a + 1) / 1024)) ((a + 1) % 1024 * 5) a a (.pointer tp) tp due _ _ _ _ _ w (tyOf_ne tW tE (by decide)) (tyOf_ne tg tW (by decide)) ha ha hold rfl rfl c18 c19 c20 c21 (tyOf_frozen tW) (hrow _ hold) (hE 0 (by omega)) (hE 1 (by omega)) (hE 2 (by omega)) (hE 3 (by omega)) (hE 4 (by omega)) (tyOf_frozen tE)).mono ?_
    rintro e w' ⟨rfl, rfl⟩
    have hnc : D.nc = (a + 1) / 1024 + 1 := by rcases h.nc with x | x <;> omega
    refine ⟨_, ?_, takD_st (s.setW 19 (i32v (a + 1)) (by decide) (by decide) (by decide)) hold (.pointer tp) due, ?_⟩
    · rfl
    · exact ⟨rfl, hnc, hcv, fun _ _ => rfl, fun o ho => (takD_wc (by omega)).trans (up2_ne (fun x => by omega)), (takD_wc (by omega)).trans (up2_same D.wc 0 19 (i32v (a + 1))), takD_21, fun e f he _ hf => takD_ent he hf, takD_due⟩
  · have hn : (a + 1) / 1024 = D.nc := by rcases h.nc with x | x <;> omega
    obtain ⟨ad, gcap, hv⟩ : ∃ ad gcap, D.wc 0 18 = .slice ad D.nc gcap := by
      have hl : D.cv.length = D.nc := by rw [hcv]; simp
      rcases s.oC.2 with ⟨h0, h1⟩ | ⟨g, cap, cur, h0, _⟩
      · exact ⟨none, 0, by rw [h0, ← hl, h1]⟩
      · exact ⟨_, cap, by rw [h0, hl]⟩
    have hl : D.cv.length = D.nc := by rw [hcv]; simp
    have c18 := (hW 18 (by omega)).trans (congrArg some hv)
    have ho := s.oC
    rw [hv, hl] at ho
    refine (take_new W D.nc gcap a a w0.heap.size ad tp due D.cv w tW ha ha hn s.sz c18 ho c19 c20 c21).mono ?_
    rintro e w' ⟨rfl, g', cap', wa, k', ho', rfl⟩
    have s1 := s.setW 19 (i32v (a + 1)) (by decide) (by decide) (by decide)
    have s2 := s1.new (w' := (w.setCell ⟨W, 19, none⟩ (i32v (a + 1))).alloc (.cells Yba.zeroCells114 114)) ((Below.refl _ _).alloc (Nat.le_refl _) _)
    have hsz : (w.setCell ⟨W, 19, none⟩ (i32v (a + 1))).heap.size = w.heap.size := by simp
    have hB := (MapKept.heap_alloc (w.setCell ⟨W, 19, none⟩ (i32v (a + 1))) (.cells Yba.zeroCells114 114)).1
    rw [hsz] at hB
    have hcell := cells_of Yba.zc114 hB
    have s3 := s2.addE (B := w.heap.size) (d := fun o => (((w.setCell ⟨W, 19, none⟩ (i32v (a + 1))).alloc (.cells Yba.zeroCells114 114)).cell? ⟨w.heap.size, o, none⟩).getD (.pointer none)) (tyOf_of hB) (fun c hc => by have := tyOf_lt (s.fE.ty c hc); exact Nat.ne_of_lt this) (fun o ho => by obtain ⟨v, hv⟩ := hcell o ho; rw [hv]; rfl) s.sz
    have k2 : Kept (fun j => (up2 D.wc 0 19 (i32v (a + 1)) 0 18).ownBlock = some j) ((w.setCell ⟨W, 19, none⟩ (i32v (a + 1))).alloc (.cells Yba.zeroCells114 114)) wa := by
      rw [up2_ne (by decide), hv]; exact k'
    have hlx : (D.cv ++ [Value.pointer (some ⟨w.heap.size, 0, none⟩)]).length = D.nc + 1 := by rw [List.length_append, hl]; rfl
    have s4 : St w0 wx W C G (newD D a w.heap.size (fun o => (((w.setCell ⟨W, 19, none⟩ (i32v (a + 1))).alloc (.cells Yba.zeroCells114 114)).cell? ⟨w.heap.size, o, none⟩).getD (.pointer none)) (.slice (some ⟨g', 0, none⟩) (D.nc + 1) cap')) (wa.setCell ⟨W, 18, none⟩ (.slice (some ⟨g', 0, none⟩) (D.nc + 1) cap')) :=
      s3.growC k2 (.slice (some ⟨g', 0, none⟩) (D.nc + 1) cap') (D.cv ++ [Value.pointer (some ⟨w.heap.size, 0, none⟩)]) (by rw [hlx]; exact ho')
    generalize (fun o => (((w.setCell ⟨W, 19, none⟩ (i32v (a + 1))).alloc (.cells Yba.zeroCells114 114)).cell? ⟨w.heap.size, o, none⟩).getD (.pointer none)) = d at s4
    have s5 := takD_st s4 (a := a) (by show (a + 1) / 1024 < D.nc + 1; omega) (.pointer tp) due
    rw [newD_cb hn] at s5
    refine ⟨_, ?_, s5, ?_⟩
    · show _ = Ending.returned (.tuple #[.int .i32 (a + 1 : Nat), .pointer (some ⟨(newD D a w.heap.size d (.slice (some ⟨g', 0, none⟩) (D.nc + 1) cap')).cb ((a + 1) / 1024), (a + 1) % 1024 * 5, none⟩)])
      rw [newD_cb hn]
    · refine ⟨rfl, ?_, newD_cv (a := a) (d := d) (v := .slice (some ⟨g', 0, none⟩) (D.nc + 1) cap') hcv, fun c hc => ?_, fun o ho => (takD_wc (by omega)).trans (newD_wc (by omega) (by omega)), (takD_wc (by omega)).trans newD_19, takD_21, fun e f he hen hf => (takD_ent he hf).trans (newD_ent hen), takD_due⟩
      · show D.nc + 1 = _
        omega
      · show (if c = D.nc then _ else D.cb c) = _
        rw [if_neg (by omega)]
end Go.Proofs.Ybulkckyc
