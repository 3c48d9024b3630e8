import Derived.Test.YbulkckycMid
import Derived.Test.YbulkckycTake
import Derived.Test.YbulkckycPop
namespace Go.Proofs.Ybulkckyc
open Go.RowKit
variable {w0 wx w : World} {W C G : Nat} {D : Dat}

def Dat.ent (D : Dat) (e f : Nat) : Value := D.ec (e / 1024) (e % 1024 * 5 + f)
def Dat.slt (D : Dat) (s : Nat × Nat) (f : Nat) : Value := D.rc s.1 (s.2 * 4 + f)
def i32v (n : Nat) : Value := .int .i32 n

theorem ent_up (ec : Nat → Nat → Value) (e a f g : Nat) (v : Value) (hf : f < 5) (hg : g < 5) : up2 ec (e / 1024) (e % 1024 * 5 + f) v (a / 1024) (a % 1024 * 5 + g) = if a = e ∧ g = f then v else ec (a / 1024) (a % 1024 * 5 + g) := by
  by_cases h : a = e ∧ g = f
  · obtain ⟨rfl, rfl⟩ := h
    rw [up2_same, if_pos ⟨rfl, rfl⟩]
  · rw [if_neg h, up2_ne]
    rintro ⟨h1, h2⟩
    exact h ⟨by omega, by omega⟩

theorem apart (s : St w0 wx W C G D w) {y e : Nat} (h : y ≠ e) (hy : y / 1024 < D.nc) (he : e / 1024 < D.nc) : Apart5 (D.cb (y / 1024)) (y % 1024 * 5) (D.cb (e / 1024)) (e % 1024 * 5) := by
  by_cases hc : D.cb (y / 1024) = D.cb (e / 1024)
  · have := s.fE.inj _ _ hy he hc
    right; omega
  · exact .inl hc

/-- the chunks' row -/
theorem chunk_row (s : St w0 wx W C G D w) (hcv : D.cv = (List.range D.nc).map D.chunkP) (hn : 0 < D.nc) : ∃ g cap, D.wc 0 18 = .slice (some ⟨g, 0, none⟩) D.nc cap ∧ tyOf w g = some 113 ∧ D.nc ≤ cap ∧ ∀ c, c < D.nc → w.cell? ⟨g, c, none⟩ = some (.pointer (some ⟨D.cb c, 0, none⟩)) := by
  have hl : D.cv.length = D.nc := by rw [hcv]; simp
  obtain ⟨g, cap, h1, h2, _, h4, _, h6⟩ := row_at s.oC (by rw [hl]; exact hn)
  rw [hl] at h1 h4 h6
  refine ⟨g, cap, h1, h2, h4, fun c hc => ?_⟩
  rw [h6 c hc, hcv, List.getElem?_map, List.getElem?_range hc]
  rfl

/-- no number stands twice in l -/
def Inj (l : List Nat) : Prop := ∀ (p q x : Nat), l[p]? = some x → l[q]? = some x → p = q
def pv (l : List Nat) (p : Nat) : Nat := if p = 0 then 0 else l.getD (p - 1) 0
def nx (l : List Nat) (p : Nat) : Nat := l.getD (p + 1) 0
/-- the links of a list's entries -/
def Chain (en : Nat → Nat → Value) (l : List Nat) : Prop := ∀ (p e : Nat), l[p]? = some e → en e 3 = i32v (pv l p) ∧ en e 4 = i32v (nx l p)
def Heads (D : Dat) (s : Nat × Nat) (l : List Nat) : Prop := D.slt s 2 = i32v (l.headD 0) ∧ D.slt s 3 = i32v (l.getLastD 0)

/-- what the taking of l's entry e, at p, out of the list of slot s leaves -/
structure LRes (D D' : Dat) (s : Nat × Nat) (l : List Nat) (p e : Nat) : Prop where
  only : D' = { D with ec := D'.ec, rc := D'.rc }
  rest : ∀ k o, ¬ (k = s.1 ∧ (o = s.2 * 4 + 2 ∨ o = s.2 * 4 + 3)) → D'.rc k o = D.rc k o
  head : D'.slt s 2 = if p = 0 then i32v (nx l p) else D.slt s 2
  last : D'.slt s 3 = if nx l p = 0 then i32v (pv l p) else D.slt s 3
  ent : ∀ a f, 1 ≤ a → f < 5 → D'.ent a f = if a = e ∧ (f = 3 ∨ f = 4) then i32v 0 else if a = pv l p ∧ f = 4 then i32v (nx l p) else if a = nx l p ∧ f = 3 then i32v (pv l p) else D.ent a f

theorem up3_ent {ec : Nat → Nat → Value} {e a f : Nat} (hf : f < 5) : up2 (up2 ec (e / 1024) (e % 1024 * 5 + 3) (.int .i32 0)) (e / 1024) (e % 1024 * 5 + 4) (.int .i32 0) (a / 1024) (a % 1024 * 5 + f) = if a = e ∧ (f = 3 ∨ f = 4) then i32v 0 else ec (a / 1024) (a % 1024 * 5 + f) := by
  rw [ent_up _ _ _ _ _ _ (by omega) hf, ent_up _ _ _ _ _ _ (by omega) hf]
  by_cases h : a = e
  · subst h
    by_cases h4 : f = 4
    · subst h4; simp [i32v]
    · by_cases h3 : f = 3
      · subst h3; simp [i32v]
      · simp [h3, h4]
  · simp [h]

set_option maxHeartbeats 1000000 in
theorem lremove_call (s : St w0 wx W C G D w) (hcv : D.cv = (List.range D.nc).map D.chunkP) {k j : Nat} (hk : k < D.nl) (hj : j < 20) {l : List Nat} {p e : Nat} (hp : l[p]? = some e) (nd : Inj l) (hl : ∀ x, x ∈ l → 1 ≤ x ∧ x / 1024 < D.nc ∧ x < 2147483648) (hc : Chain D.ent l) :
    Calls Yba.prog 27 #[.pointer (some ⟨D.rb k, j * 4 + 2, none⟩), .pointer (some ⟨W, 18, none⟩), .int .i32 e, .pointer (some ⟨D.cb (e / 1024), e % 1024 * 5, none⟩)] w fun ex w' => ex = .returned (.tuple #[]) ∧ ∃ D', St w0 wx W C G D' w' ∧ LRes D D' (k, j) l p e := by
  obtain ⟨he1, he2, he3⟩ := hl e (List.mem_of_getElem? hp)
  obtain ⟨g, cap, hv, tg, hcap, hrow⟩ := chunk_row s hcv (by omega)
  have tW := s.fW.ty 0 (by omega)
  have tR := s.fR.ty _ hk
  have tE := s.fE.ty _ he2
  have c18 : w.cell? ⟨W, 18, none⟩ = some (.slice (some ⟨g, 0, none⟩) D.nc cap) := (s.fW.cell 0 18 (by omega) (by omega)).trans (by rw [hv])
  have hR := fun o (ho : o < 80) => s.fR.cell k o hk ho
  have hE := fun x f (hx : x / 1024 < D.nc) (hf : f < 5) => s.fE.cell (x / 1024) (x % 1024 * 5 + f) hx (by omega)
  obtain ⟨c3, c4⟩ := hc p e hp
  have d3 := (hE e 3 he2 (by omega)).trans (congrArg some c3)
  have d4 := (hE e 4 he2 (by omega)).trans (congrArg some c4)
  have hpl := (List.getElem?_eq_some_iff.1 hp).1
  have hnxm : nx l p ≠ 0 → l[p + 1]? = some (nx l p) := fun h => by
    unfold nx at h ⊢
    rw [List.getD_eq_getElem?_getD] at h ⊢
    cases hq : l[p + 1]? with
    | none => rw [hq] at h; exact absurd rfl h
    | some x => rfl
  have hpvm : p ≠ 0 → l[p - 1]? = some (pv l p) := fun h => by
    unfold pv
    rw [if_neg h, List.getD_eq_getElem?_getD, List.getElem?_eq_getElem (show p - 1 < l.length by omega)]
    rfl
  have hne : ∀ q x, q ≠ p → l[q]? = some x → x ≠ e := fun q x hq hx hxe => by
    exact hq (nd q p e (hxe ▸ hx) hp)
  by_cases p0 : p = 0
  · have epv : pv l p = 0 := by unfold pv; rw [if_pos p0]
    rw [epv] at d3
    by_cases n0 : nx l p = 0
    · rw [n0] at d4
      refine (remove_only W (D.rb k) (j * 4) (D.cb (e / 1024)) (e % 1024 * 5) e _ _ w (tyOf_ne tR tE (by decide)) (hR _ (by omega)) (hR _ (by omega)) (tyOf_frozen tR) d3 d4 (tyOf_frozen tE)).mono ?_
      rintro ex w' ⟨rfl, rfl⟩
      refine ⟨rfl, _, (((s.setR k hk (j * 4 + 2) (.int .i32 0)).setR k hk (j * 4 + 3) (.int .i32 0)).setE (e / 1024) he2 (e % 1024 * 5 + 3) (.int .i32 0)).setE (e / 1024) he2 (e % 1024 * 5 + 4) (.int .i32 0), rfl, ?_, ?_, ?_, ?_⟩
      · intro k' o h
        exact (up2_ne (fun x => h ⟨x.1, .inr x.2⟩)).trans (up2_ne (fun x => h ⟨x.1, .inl x.2⟩))
      · rw [if_pos p0, n0]
        exact (up2_ne (by omega)).trans (up2_same _ _ _ _)
      · rw [if_pos n0, epv]
        exact up2_same _ _ _ _
      · intro a f ha hf
        refine (up3_ent (ec := D.ec) hf).trans ?_
        rw [epv, n0, if_neg (show ¬ (a = 0 ∧ f = 4) by omega), if_neg (show ¬ (a = 0 ∧ f = 3) by omega)]
        rfl
    · have hx := hnxm n0
      obtain ⟨hx1, hx2, hx3⟩ := hl _ (List.mem_of_getElem? hx)
      have hxe := hne _ _ (by omega) hx
      have tF := s.fE.ty _ hx2
      refine (remove_first W (D.rb k) (j * 4) (D.cb (e / 1024)) (e % 1024 * 5) e (nx l p) (D.cb (nx l p / 1024)) (nx l p % 1024 * 5) g D.nc cap _ _ w (tyOf_ne tR tE (by decide)) (tyOf_ne tR tF (by decide)) (tyOf_ne tW tR (by decide)) (tyOf_ne tg tR (by decide)) ?_ (by omega) (hR _ (by omega)) (tyOf_frozen tR) d3 d4 (tyOf_frozen tE) ⟨hx3, hx2⟩ c18 (hrow _ hx2) rfl (hE _ 3 hx2 (by omega)) (tyOf_frozen tF)).mono ?_
      · rcases apart s hxe hx2 he2 with h | h
        · exact .inl h
        · right; omega
      rintro ex w' ⟨rfl, rfl⟩
      refine ⟨rfl, _, (((s.setR k hk (j * 4 + 2) (i32v (nx l p))).setE (nx l p / 1024) hx2 (nx l p % 1024 * 5 + 3) (.int .i32 0)).drew.setE (e / 1024) he2 (e % 1024 * 5 + 3) (.int .i32 0)).setE (e / 1024) he2 (e % 1024 * 5 + 4) (.int .i32 0), rfl, ?_, ?_, ?_, ?_⟩
      · intro k' o h
        exact up2_ne (fun x => h ⟨x.1, .inl x.2⟩)
      · rw [if_pos p0]
        exact up2_same _ _ _ _
      · rw [if_neg n0]
        exact up2_ne (by omega)
      · intro a f ha hf
        refine (up3_ent (ec := up2 D.ec (nx l p / 1024) (nx l p % 1024 * 5 + 3) (.int .i32 0)) hf).trans ?_
        rw [ent_up _ _ _ _ _ _ (by omega) hf, epv, if_neg (show ¬ (a = 0 ∧ f = 4) by omega)]
        rfl
  · have hy := hpvm p0
    obtain ⟨hy1, hy2, hy3⟩ := hl _ (List.mem_of_getElem? hy)
    have hye := hne _ _ (by omega) hy
    have tF := s.fE.ty _ hy2
    by_cases n0 : nx l p = 0
    · rw [n0] at d4
      refine (remove_last W (D.rb k) (j * 4) (D.cb (e / 1024)) (e % 1024 * 5) e (pv l p) (D.cb (pv l p / 1024)) (pv l p % 1024 * 5) g D.nc cap _ _ w (tyOf_ne tR tE (by decide)) (tyOf_ne tR tF (by decide)) (apart s hye hy2 he2) (by omega) (hR _ (by omega)) (tyOf_frozen tR) d3 d4 (tyOf_frozen tE) ⟨hy3, hy2⟩ c18 (hrow _ hy2) rfl (hE _ 4 hy2 (by omega)) (tyOf_frozen tF)).mono ?_
      rintro ex w' ⟨rfl, rfl⟩
      refine ⟨rfl, _, ((((s.setE (pv l p / 1024) hy2 (pv l p % 1024 * 5 + 4) (.int .i32 0)).drew.setR k hk (j * 4 + 3) (i32v (pv l p))).setE (e / 1024) he2 (e % 1024 * 5 + 3) (.int .i32 0)).setE (e / 1024) he2 (e % 1024 * 5 + 4) (.int .i32 0)), rfl, ?_, ?_, ?_, ?_⟩
      · intro k' o h
        exact up2_ne (fun x => h ⟨x.1, .inr x.2⟩)
      · rw [if_neg p0]
        exact up2_ne (by omega)
      · rw [if_pos n0]
        exact up2_same _ _ _ _
      · intro a f ha hf
        refine (up3_ent (ec := up2 D.ec (pv l p / 1024) (pv l p % 1024 * 5 + 4) (.int .i32 0)) hf).trans ?_
        rw [ent_up _ _ _ _ _ _ (by omega) hf, n0, if_neg (show ¬ (a = 0 ∧ f = 3) by omega)]
        rfl
    · have hx := hnxm n0
      obtain ⟨hx1, hx2, hx3⟩ := hl _ (List.mem_of_getElem? hx)
      have hxe := hne _ _ (by omega) hx
      have tF2 := s.fE.ty _ hx2
      refine (remove_mid W (D.rb k) (j * 4) (D.cb (e / 1024)) (e % 1024 * 5) e (pv l p) (D.cb (pv l p / 1024)) (pv l p % 1024 * 5) (nx l p) (D.cb (nx l p / 1024)) (nx l p % 1024 * 5) g D.nc cap _ _ w (apart s hye hy2 he2) (apart s hxe hx2 he2) (tyOf_ne tW tF (by decide)) (tyOf_ne tg tF (by decide)) (by omega) (by omega) d3 d4 (tyOf_frozen tE) ⟨hy3, hy2⟩ ⟨hx3, hx2⟩ c18 (hrow _ hy2) (hrow _ hx2) rfl rfl (hE _ 4 hy2 (by omega)) (tyOf_frozen tF) (hE _ 3 hx2 (by omega)) (tyOf_frozen tF2)).mono ?_
      rintro ex w' ⟨rfl, rfl⟩
      refine ⟨rfl, _, ((((s.setE (pv l p / 1024) hy2 (pv l p % 1024 * 5 + 4) (i32v (nx l p))).drew.setE (nx l p / 1024) hx2 (nx l p % 1024 * 5 + 3) (i32v (pv l p))).drew.setE (e / 1024) he2 (e % 1024 * 5 + 3) (.int .i32 0)).setE (e / 1024) he2 (e % 1024 * 5 + 4) (.int .i32 0)), rfl, ?_, ?_, ?_, ?_⟩
      · intro k' o h
        rfl
      · rw [if_neg p0]; rfl
      · rw [if_neg n0]; rfl
      · intro a f ha hf
        refine (up3_ent (ec := up2 (up2 D.ec (pv l p / 1024) (pv l p % 1024 * 5 + 4) (i32v (nx l p))) (nx l p / 1024) (nx l p % 1024 * 5 + 3) (i32v (pv l p))) hf).trans ?_
        rw [ent_up _ _ _ _ _ _ (by omega) hf, ent_up _ _ _ _ _ _ (by omega) hf]
        by_cases h4 : f = 4
        · subst h4
          simp only [show ¬ (4 = 3) from by omega, and_false, if_false]
          rfl
        · simp only [h4, and_false, if_false]
          rfl
end Go.Proofs.Ybulkckyc
