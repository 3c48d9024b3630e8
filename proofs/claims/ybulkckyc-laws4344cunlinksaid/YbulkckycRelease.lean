import Derived.Test.YbulkckycChain
namespace Go.Proofs.Ybulkckyc
open Go.RowKit
variable {w0 wx w : World} {W C G : Nat} {D : Dat}

theorem St.cells (l : List Value) : ∀ {D : Dat} {w : World} (_ : St w0 wx W C G D w) {g n cap : Nat} (_ : D.wc 0 18 = .slice (some ⟨g, 0, none⟩) n cap) (o : Nat), ∃ cv', cv'.length = D.cv.length ∧ St w0 wx W C G { D with cv := cv' } (w.setCells g o l) := by
  induction l with
  | nil => intro D w s g n cap _ o; exact ⟨D.cv, rfl, s⟩
  | cons v l ih =>
    intro D w s g n cap hv o
    obtain ⟨cv', h1, h2⟩ := ih (s.rowC hv o v) (by exact hv) (o + 1)
    exact ⟨cv', by rw [h1, List.length_set], h2⟩

/-- what release leaves -/
structure RRes (D D' : Dat) (e u : Nat) : Prop where
  only : D' = { D with ec := D'.ec, wc := D'.wc, cv := D'.cv }
  ent : ∀ a f, a ≠ e → f < 5 → D'.ent a f = D.ent a f
  wc : ∀ o, (o < 18 ∨ 21 < o) → D'.wc 0 o = D.wc 0 o
  use : D'.wc 0 21 = i32v (u - 1)
  free : ∃ f : Int, D'.wc 0 20 = .int .i32 f
  cv : 1 < u → D'.cv = D.cv

theorem ent5 {ec : Nat → Nat → Value} {e a f : Nat} {v0 v1 v2 v3 v4 : Value} (h : a ≠ e) (hf : f < 5) :
    up2 (up2 (up2 (up2 (up2 ec (e / 1024) (e % 1024 * 5 + 0) v0) (e / 1024) (e % 1024 * 5 + 1) v1) (e / 1024) (e % 1024 * 5 + 2) v2) (e / 1024) (e % 1024 * 5 + 3) v3) (e / 1024) (e % 1024 * 5 + 4) v4 (a / 1024) (a % 1024 * 5 + f) = ec (a / 1024) (a % 1024 * 5 + f) := by
  rw [ent_up _ _ _ _ _ _ (by omega) hf, if_neg (fun x => h x.1), ent_up _ _ _ _ _ _ (by omega) hf, if_neg (fun x => h x.1), ent_up _ _ _ _ _ _ (by omega) hf, if_neg (fun x => h x.1), ent_up _ _ _ _ _ _ (by omega) hf, if_neg (fun x => h x.1), ent_up _ _ _ _ _ _ (by omega) hf, if_neg (fun x => h x.1)]

/-- what stands behind release's plain writes -/
def relD (D : Dat) (e : Nat) (f : Int) (u : Value) : Dat := { D with ec := up2 (up2 (up2 (up2 (up2 D.ec (e / 1024) (e % 1024 * 5 + 0) (.pointer none)) (e / 1024) (e % 1024 * 5 + 1) (.pointer none)) (e / 1024) (e % 1024 * 5 + 2) (.int .i64 0)) (e / 1024) (e % 1024 * 5 + 3) (.int .i32 0)) (e / 1024) (e % 1024 * 5 + 4) (.int .i32 f), wc := up2 (up2 D.wc 0 20 (.int .i32 e)) 0 21 u }
theorem relD_wc {D : Dat} {e : Nat} {f : Int} {u : Value} {o : Nat} (h1 : o ≠ 20) (h2 : o ≠ 21) : (relD D e f u).wc 0 o = D.wc 0 o := (up2_ne (fun x => h2 x.2)).trans (up2_ne (fun x => h1 x.2))
theorem relD_21 {D : Dat} {e : Nat} {f : Int} {u : Value} : (relD D e f u).wc 0 21 = u := by
  show up2 (up2 D.wc 0 20 (.int .i32 e)) 0 21 u 0 21 = u
  rw [up2_same]
theorem relD_20 {D : Dat} {e : Nat} {f : Int} {u : Value} : (relD D e f u).wc 0 20 = .int .i32 e := by
  show up2 (up2 D.wc 0 20 (.int .i32 e)) 0 21 u 0 20 = _
  rw [up2_ne (by omega), up2_same]
theorem relD_ent {D : Dat} {e : Nat} {f : Int} {u : Value} {a g : Nat} (ha : a ≠ e) (hg : g < 5) : (relD D e f u).ent a g = D.ent a g := ent5 ha hg
/-- .. and behind the clearing of the chunks -/
def relD2 (D : Dat) (v : Value) (cv : List Value) : Dat := { D with cv := cv, wc := up2 (up2 (up2 D.wc 0 18 v) 0 19 (.int .i32 0)) 0 20 (.int .i32 0) }
theorem relD2_wc {D : Dat} {v : Value} {cv : List Value} {o : Nat} (h : o < 18 ∨ 20 < o) : (relD2 D v cv).wc 0 o = D.wc 0 o := (up2_ne (fun x => by omega)).trans ((up2_ne (fun x => by omega)).trans (up2_ne (fun x => by omega)))
theorem relD2_20 {D : Dat} {v : Value} {cv : List Value} : (relD2 D v cv).wc 0 20 = .int .i32 0 := by
  show up2 (up2 (up2 D.wc 0 18 v) 0 19 (.int .i32 0)) 0 20 (.int .i32 0) 0 20 = _
  rw [up2_same]

theorem relD_st (s : St w0 wx W C G D w) {e : Nat} (he : e / 1024 < D.nc) (f : Int) (u : Value) : St w0 wx W C G (relD D e f u) (((((((w.setCell ⟨D.cb (e / 1024), e % 1024 * 5, none⟩ (.pointer none)).setCell ⟨D.cb (e / 1024), e % 1024 * 5 + 1, none⟩ (.pointer none)).setCell ⟨D.cb (e / 1024), e % 1024 * 5 + 2, none⟩ (.int .i64 0)).setCell ⟨D.cb (e / 1024), e % 1024 * 5 + 3, none⟩ (.int .i32 0)).setCell ⟨D.cb (e / 1024), e % 1024 * 5 + 4, none⟩ (.int .i32 f)).setCell ⟨W, 20, none⟩ (.int .i32 e)).setCell ⟨W, 21, none⟩ u) :=
  ((((((s.setE (e / 1024) he (e % 1024 * 5 + 0) (.pointer none)).setE (e / 1024) he (e % 1024 * 5 + 1) (.pointer none)).setE (e / 1024) he (e % 1024 * 5 + 2) (.int .i64 0)).setE (e / 1024) he (e % 1024 * 5 + 3) (.int .i32 0)).setE (e / 1024) he (e % 1024 * 5 + 4) (.int .i32 f)).setW 20 (.int .i32 e) (by decide) (by decide) (by decide)).setW 21 u (by decide) (by decide) (by decide)

theorem relD2_st (s : St w0 wx W C G D w) {g cap n : Nat} (hv : D.wc 0 18 = .slice (some ⟨g, 0, none⟩) n cap) (hn : 1 ≤ n) : ∃ cv, St w0 wx W C G (relD2 D (.slice (some ⟨g, 0, none⟩) 1 cap) cv)
    ((((w.setCells g 1 (List.replicate (n - 1) (.pointer none))).setCell ⟨W, 18, none⟩ (.slice (some ⟨g, 0, none⟩) 1 cap)).setCell ⟨W, 19, none⟩ (.int .i32 0)).setCell ⟨W, 20, none⟩ (.int .i32 0)) := by
  have hln : D.cv.length = n := by
    rcases s.oC.2 with ⟨h0, _⟩ | ⟨g', cap', cur, h0, _⟩
    · rw [hv] at h0; cases h0
    · rw [hv] at h0; simp only [Value.slice.injEq] at h0; exact h0.2.1.symm
  obtain ⟨cv', hl, s2⟩ := s.cells (List.replicate (n - 1) (.pointer none)) hv 1
  have o3 : (w.setCells g 1 (List.replicate (n - 1) (.pointer none))).ownsRow w0.heap.size 113 1 (.slice (some ⟨g, 0, none⟩) 1 cap) (cv'.take 1).length (cv'.take 1) := by
    have e1 : (cv'.take 1).length = 1 := by rw [List.length_take]; omega
    rw [e1]
    refine row_cut (n := n) ?_ hn
    have o4 : (w.setCells g 1 (List.replicate (n - 1) (.pointer none))).ownsRow w0.heap.size 113 1 (D.wc 0 18) cv'.length cv' := s2.oC
    rw [hv, hl, hln] at o4
    exact o4
  exact ⟨cv'.take 1, ((s2.valC (.slice (some ⟨g, 0, none⟩) 1 cap) (cv'.take 1) o3).setW 19 (.int .i32 0) (by decide) (by decide) (by decide)).setW 20 (.int .i32 0) (by decide) (by decide) (by decide)⟩

theorem release_call (s : St w0 wx W C G D w) (hcv : D.cv = (List.range D.nc).map D.chunkP) {e u : Nat} (he : e / 1024 < D.nc) (hn : D.nc ≤ 1000) (hu : 1 ≤ u ∧ u ≤ 2500) (c21 : D.wc 0 21 = i32v u) {f : Int} (c20 : D.wc 0 20 = .int .i32 f) :
    Calls Yba.prog 28 #[.pointer (some ⟨W, 18, none⟩), .int .i32 e, .pointer (some ⟨D.cb (e / 1024), e % 1024 * 5, none⟩)] w fun ex w' => ex = .returned (.tuple #[]) ∧ ∃ D', St w0 wx W C G D' w' ∧ RRes D D' e u := by
  obtain ⟨g, cap, hv, tg, hcap, hrow⟩ := chunk_row s hcv (by omega)
  have tW := s.fW.ty 0 (by omega)
  have tE := s.fE.ty _ he
  have hWE := tyOf_ne tW tE (by decide)
  have hW := fun o (ho : o < 41) => s.fW.cell 0 o (by omega) ho
  have d20 := (hW 20 (by omega)).trans (congrArg some c20)
  have d21 := (hW 21 (by omega)).trans (congrArg some c21)
  have hE := fun f (hf : f < 5) => s.fE.cell (e / 1024) (e % 1024 * 5 + f) he (by omega)
  by_cases u1 : u = 1
  · subst u1
    by_cases n1 : D.nc = 1
    · rw [n1] at hv
      have d18 := (hW 18 (by omega)).trans (congrArg some hv)
      refine (release_last1 W (D.cb (e / 1024)) (e % 1024 * 5) e _ _ _ _ _ f w hWE g cap d18 d20 d21 (tyOf_frozen tW) (hE 0 (by omega)) (hE 1 (by omega)) (hE 2 (by omega)) (hE 3 (by omega)) (hE 4 (by omega)) (tyOf_frozen tE)).mono ?_
      rintro ex w' ⟨rfl, rfl⟩
      exact ⟨rfl, _, relD_st s he f (.int .i32 0), rfl, fun a g ha hg => relD_ent ha hg, fun o ho => relD_wc (by omega) (by omega), relD_21, ⟨_, relD_20⟩, fun h => by omega⟩
    · have d18 := (hW 18 (by omega)).trans (congrArg some hv)
      refine (release_lastN W (D.cb (e / 1024)) (e % 1024 * 5) e g D.nc cap _ _ _ _ _ _ f w hWE (tyOf_ne tg tE (by decide)) (tyOf_ne tg tW (by decide)) (by omega) hcap hn d18 (hW 19 (by omega)) d20 d21 (tyOf_frozen tW) (fun j hj => by rw [hrow j hj]; rfl) (tyOf_frozen tg) (hE 0 (by omega)) (hE 1 (by omega)) (hE 2 (by omega)) (hE 3 (by omega)) (hE 4 (by omega)) (tyOf_frozen tE)).mono ?_
      rintro ex w' ⟨rfl, rfl⟩
      obtain ⟨cv, s2⟩ := relD2_st (relD_st s he f (.int .i32 0)) (g := g) (cap := cap) (n := D.nc) ((relD_wc (by decide) (by decide)).trans hv) (by omega)
      exact ⟨rfl, _, s2, rfl, fun a g ha hg => relD_ent (u := .int .i32 0) ha hg, fun o ho => (relD2_wc (by omega)).trans (relD_wc (by omega) (by omega)), (relD2_wc (by omega)).trans relD_21, ⟨_, relD2_20⟩, fun h => by omega⟩
  · refine (release_keep W (D.cb (e / 1024)) (e % 1024 * 5) e u _ _ _ _ _ f w hWE (by omega) d20 d21 (tyOf_frozen tW) (hE 0 (by omega)) (hE 1 (by omega)) (hE 2 (by omega)) (hE 3 (by omega)) (hE 4 (by omega)) (tyOf_frozen tE)).mono ?_
    rintro ex w' ⟨rfl, rfl⟩
    exact ⟨rfl, _, relD_st s he f (.int .i32 (u - 1 : Nat)), rfl, fun a g ha hg => relD_ent ha hg, fun o ho => relD_wc (by omega) (by omega), relD_21, ⟨_, relD_20⟩, fun _ => rfl⟩
end Go.Proofs.Ybulkckyc
