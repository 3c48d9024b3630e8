import Derived.Test.YbulkckssSt9
namespace Go.Proofs.Ybulkckss
open Go.RowKit Go.Lib

theorem Z36_start {b : Nat} (hb : b < 256) : Z36[3 + b]? = some (.int .i32 0) := by
  unfold Z36
  rw [Array.getElem?_append_left (by simp; try omega), Array.getElem?_append_left (by simp; try omega), Array.getElem?_append_left (by simp; try omega), Array.getElem?_append_right (by simp), Array.getElem?_replicate, if_pos (by simp; try omega)]
theorem Z36_delta : Z36[259]? = some (.slice none 0 0) := by
  unfold Z36
  rw [Array.getElem?_append_left (by simp), Array.getElem?_append_left (by simp), Array.getElem?_append_right (by simp)]
  simp
theorem Z36_class {b : Nat} (hb : b < 256) : Z36[260 + b]? = some (.int .u16 0) := by
  unfold Z36
  rw [Array.getElem?_append_left (by simp; try omega), Array.getElem?_append_right (by simp; try omega), Array.getElem?_replicate, if_pos (by simp; try omega)]
theorem Z36_ncls : Z36[516]? = some (.int .i64 0) := by
  unfold Z36
  rw [Array.getElem?_append_right (by simp)]
  simp

/-- the finder that newLiteralFinder hands back, by its meaning and its memory -/
structure FO (tx : Nat → ByteArray) (n SB EB N M ke : Nat) (st : Nat → Nat → Int) (ed : Nat → Nat × Nat) (sta ef et : Nat → Nat) (wd : Nat → List Nat) (cl : Nat → Nat) (nc : Nat) (vD : Value) (base : Nat) (w : World) : Prop where
  se : SE SB EB N M ke st ed w
  T : Trie N wd
  E : FE N M wd ef et ed sta
  hst : ∀ s, 0 < s → s < N → st s 0 = ef s ∧ st s 1 = et s
  hLP : ∀ s, 0 < s → s < N → ∃ f : Nat, st s 2 = f ∧ LP N wd (wd s) f
  bld : ∃ e, Bld (fun p => p = [] ∨ ∃ j, j < n ∧ p <+: bl (tx j)) N wd e
  lcl : ∀ b, cl b < nc
  lnc : nc ≤ 257
  dn : vD = .slice none 0 0 ∨ ∃ DB g, vD = .slice (some ⟨DB, 0, none⟩) (N * nc) (N * nc) ∧ N * nc ≤ 1048576 ∧ base ≤ DB ∧ RowD DB (N * nc) g w ∧ ∀ s, s < N → RowOK N wd st cl nc g s
  le : base ≤ SB ∧ base ≤ EB

theorem word_last {P : List UInt8 → Prop} {N : Nat} {wd : Nat → List Nat} {e : Nat → Ed} (B : Bld P N wd e) {t b : Nat} {l : List Nat} (ht : t < N) (h : wd t = l ++ [b]) : ∃ p x, P p ∧ x.toNat = b ∧ ∃ p', p = p' ++ [x] := by
  obtain ⟨p, hp, ep⟩ := B.inn t ht
  have hne : p ≠ [] := fun e0 => by
    rw [e0] at ep
    rw [ep] at h
    have := congrArg List.length h
    simp [bw] at this
  refine ⟨p, p.getLast hne, hp, ?_, p.dropLast, (List.dropLast_concat_getLast hne).symm⟩
  have e1 : bw p = bw p.dropLast ++ [(p.getLast hne).toNat] := by
    rw [← bw_snoc, List.dropLast_concat_getLast hne]
  rw [ep, e1] at h
  have := (List.append_inj' h rfl).2
  simpa using this

set_option maxHeartbeats 4000000 in
set_option maxRecDepth 100000 in
theorem finder_call {ad : Option Addr} {XB n cap : Nat} {tx : Nat → ByteArray} {w : World} (hx : TXv ad XB n tx w) (hty : 0 < n → tyOf w XB = some 9) :
    Calls Yba.prog 9 #[.slice ad n cap] w fun r w' => ∃ tv SB EB N M ks ke st ed sta ef et wd cl nc vD, r = .returned (.agg (fcs tv (.slice (some ⟨SB, 0, none⟩) N ks) (.slice (some ⟨EB, 0, none⟩) M ke) vD sta cl nc).toArray) ∧
      (∀ v ∈ fcs tv (.slice (some ⟨SB, 0, none⟩) N ks) (.slice (some ⟨EB, 0, none⟩) M ke) vD sta cl nc, v.oneCell' = true) ∧ FO tx n SB EB N M ke st ed sta ef et wd cl nc vD w.heap.size w' ∧ Below w.heap.size w w' := by
  have hn6 := hx.n6
  go_enter Yba.func9, Yba.ntmps9
  refine wp_seq ?_
  apply stm0 n cap ad w
  intro w1 hbox hRB k1
  have b1 : Below w.heap.size w w1 := k1.below (Below.refl _ _) (Nat.le_refl _) (fun _ x => x.elim)
  have hx1 := hx.kept k1 (fun _ x => x)
  have hRl : w.heap.size + 1 < w1.heap.size := tyOf_lt (tyOf_of hRB)
  refine wp_seq ?_
  apply stm1 w.heap.size n cap ad w1 (by omega) hbox
  intro _ _ _ w2 hO2 k2
  have c2 : Below w1.heap.size w1 w2 := k2.below (Below.refl _ _) (Nat.le_refl _) (fun _ x => x.elim)
  refine wp_seq ?_
  apply stm2 w1.heap.size n w2 (by omega) hO2
  intro _ _ _ _ _ _ _ _ _ _ _ _ w3 hO3 k3
  have c3 : Below w1.heap.size w1 w3 := k3.below c2 c2.size (fun g x => by omega)
  have hXl : 0 < n → XB < w1.heap.size := fun h => (hx1.ad h).2
  have hx3 : TXv ad XB n tx w3 := hx1.kept (S := fun k => w1.heap.size ≤ k) ⟨c3.os, c3.tape, c3.output, c3.size, fun k hk _ => c3.block k hk⟩ (fun h x => by have := hXl h; omega)
  have hb3 : Box w.heap.size ad n cap w3 := hbox.kept (S := fun k => w1.heap.size ≤ k) ⟨c3.os, c3.tape, c3.output, c3.size, fun k hk _ => c3.block k hk⟩ (fun x => by omega)
  refine wp_seq ?_
  apply stm3 w.heap.size XB w1.heap.size n cap ad tx w3 hx3 hb3 hO3 (fun h => by have := hXl h; omega)
  intro _ _ _ od w4 hO4 k4 hon hod hinj hsort
  have c4 : Below w1.heap.size w1 w4 := k4.below c3 c3.size (fun g x => by omega)
  refine wp_seq ?_
  apply stm4 w4
  rintro w5 rfl
  have hx5 := hx3.kept k4 (fun h x => by have := hXl h; omega)
  have hb5 := hb3.kept k4 (fun x => by omega)
  refine wp_seq ?_
  apply stm5 w.heap.size XB w1.heap.size n cap ad tx od w5 hx5 hb5 hO4 hod
  intro _ _ _ _ _ _ _ _ _ _ _ _ _ _ _ _ _ _ _ _ _ _ _ _ _ _ _ A w6 hA k6
  have c6 : Below w1.heap.size w1 w6 := k6.below c4 c4.size (fun _ x => x.elim)
  have hx6 := hx5.kept k6 (fun _ x => x)
  have hb6 := hb5.kept k6 (fun x => x)
  have hO6 := hO4.kept k6 (fun x => x)
  refine wp_seq ?_
  apply stm6 w.heap.size n cap A ad w6 hA hb6
  intro _ _ _ _ _ _ _ F SB0 EB0 w7 hmade
  refine wp_seq ?_
  apply stm7 n cap A F SB0 EB0 ad w6 w7 hA hmade
  intro _ _ _ _ w8 hgf
  refine wp_seq ?_
  apply stm8 A w8 hA
  intro _ _ w9 hE9 k9
  refine wp_seq ?_
  apply stm9 w9
  rintro w10 rfl
  refine wp_seq ?_
  apply stm10 w10
  rintro w11 rfl
  have hbi : BI Z36 w6 ad n cap A F EB0 1 (.slice (some ⟨SB0, 0, none⟩) 1 (A + 1)) (fun _ => -1) 0 (.slice (some ⟨w8.heap.size, 0, none⟩) 0 A) (fun _ => ⟨0, 0, 0⟩) [] (.slice none 0 0) w11 :=
    ⟨hgf.kept2 k9 (fun x => x) (fun _ _ x => x) (fun x => x) (fun _ x => x.elim), own_base hE9 hgf.kept.size, World.ownsRow_nil _ _ _ _, ⟨_, _, rfl⟩⟩
  refine wp_seq ?_
  apply stm11 Z36 w.heap.size XB w1.heap.size n cap A F EB0 ad tx od _ _ _ w6 w11 hx6 hb6 hO6 hod hsort hbi
  intro _ _ _ _ _ _ _ _ _ _ _ _ _ _ _ _ _ _ _ _ _ _ _ _ _ _ _ _ _ _ _ _ _ _ _ _ _ _ _ _ _ _ _ _ _ _ _ _ _ _ _ _ _ _ _ _ _ _ _ _ _ _ _ _ _ _ _ _ _ _ _ vE m vS vP tt e wd path w12 hB12 hbld hm6
  obtain ⟨B, cE, rfl⟩ := hB12.nE
  obtain ⟨SB, ks, rfl⟩ := hB12.slS (by omega)
  have hrow := rowE_of hB12.oE
  refine wp_seq ?_
  apply stm12 B m cE e w12 hm6 hrow
  intro _ _ g w13 hR13 hperm hsorted k13
  have tB := own_ty hB12.oE B rfl
  have hBle := own_le hB12.oE B rfl
  have gf13 := hB12.gf.kept2 k13 (fun x => tyOf_ne hB12.gf.tF tB (by decide) x) (fun g hg x => tyOf_ne (own_ty hB12.gf.oS g hg) tB (by decide) x) (fun x => tyOf_ne hB12.gf.tE tB (by decide) x) (fun j x => by omega)
  obtain ⟨z, hz, hz1, hz2⟩ := zeros hsorted
  have hg : ∀ j, j < m → (g j).fr < m + 1 ∧ (g j).b < 256 ∧ (g j).tt < m + 1 := fun j hj => by
    obtain ⟨i, _, hi, ei⟩ := hperm.bk (Nat.zero_le j) hj
    obtain ⟨h1, h2, h3, _⟩ := hbld.ed (i + 1) (by omega) (by omega)
    rw [Nat.add_sub_cancel] at h1 h2 h3
    rw [ei]
    exact ⟨h2, h3, by omega⟩
  have hge0 : GE (fun o => w13.cell? ⟨F, o, none⟩) w6.heap.size F SB (m + 1) ks (.slice (some ⟨EB0, 0, none⟩) 0 A) (0 - z) (fun j => ((g (z + j)).b, (g (z + j)).tt)) (sc tt) (fun _ => 0) w13 := by
    rw [Nat.zero_sub]
    exact ⟨gf13.tF, gf13.c1, gf13.c2, fun b hb => (gf13.cz (3 + b) (by omega) (by omega)).trans (Z36_start hb), own_ty gf13.oS SB rfl, fun s f hs hf => (gf13.oS.cellAt (s * 5 + f) (by have := sL_len tt (m + 1); omega)).trans (sL_get tt (m + 1) s f hs hf), gf13.oE, by omega, gf13.kept.size, ⟨_, _, rfl⟩, fun _ _ => rfl⟩
  have hEI : EI w13 w6.heap.size F SB B (m + 1) ks m z 0 g (sc tt) w13 := ⟨_, sc tt, fun _ => 0, fun _ => 0, fun _ => 0, hge0, hR13, PR.init, PS.init, fun s _ => ⟨by simp [sc], by simp [sc]⟩, fun _ _ _ => rfl, Kept.refl _ _⟩
  refine wp_seq ?_
  apply stm13 w6.heap.size F SB B (m + 1) ks m cE z g (sc tt) w13 hm6 hsorted hz hz1 hz2 hg hEI
  rintro _ _ _ _ _ _ _ _ _ _ _ _ _ _ _ _ _ _ _ _ _ _ _ _ _ _ _ _ _ _ _ _ _ _ _ _ _ _ _ _ _ _ _ _ _ _ _ _ _ _ _ w14 ⟨vM, st, ef, et, sta, hge, hR14, hpr, hps, hst01, hst2, k14⟩
  obtain ⟨EB, ke, rfl⟩ := hge.nn
  have E : FE (m + 1) (m - z) wd ef et (fun j => ((g (z + j)).b, (g (z + j)).tt)) sta := fe_of hbld rfl hperm hz1 hz2 hz hpr (fun b hb => by
    rcases hps b hb with ⟨h1, h2⟩ | ⟨j, j1, j2, j3, j4⟩
    · exact .inl ⟨h1, fun i hi => h2 i (by omega) hi⟩
    · exact .inr ⟨j, j2, j3, j4⟩)
  have hmke : m - z ≤ ke := by
    rcases hge.oM.2 with ⟨h0, _⟩ | ⟨g', c', cur, h0, _, _, h1, _⟩
    · cases h0
    · simp only [Value.slice.injEq] at h0
      omega
  have hel := eL_len (fun j => ((g (z + j)).b, (g (z + j)).tt)) (m - z)
  have fm14 : FM F SB EB (m + 1) (m - z) ks ke st (fun j => ((g (z + j)).b, (g (z + j)).tt)) sta w14 :=
    ⟨hge.tF, hge.cS, hge.cM, hge.cA, hge.tS, hge.cs, own_ty hge.oM EB rfl, fun j hj => ⟨(hge.oM.cellAt (j * 2) (by omega)).trans (eL_get _ _ j hj).1, (hge.oM.cellAt (j * 2 + 1) (by omega)).trans (eL_get _ _ j hj).2⟩, hmke, hge.N6, by omega⟩
  have T := hbld.tr
  have hwb : ∀ t b, t < m + 1 → wd t = [b] → b < 256 := fun t b ht e => by
    obtain ⟨p, x, _, hxb, _⟩ := word_last hbld (l := []) ht e
    rw [← hxb]; exact x.toNat_lt
  refine wp_seq ?_
  apply stm14 A w14 hA
  intro _ _ w15 hQ15 k15
  have hLK : LK F SB EB (m + 1) (m - z) ks ke st (fun j => ((g (z + j)).b, (g (z + j)).tt)) sta wd (fun _ => False) [] (.slice (some ⟨w14.heap.size, 0, none⟩) 0 A) w14 w15 := ⟨⟨st, fm14.kept k15 (fun x => x) (fun x => x) (fun x => x), fun _ _ _ => rfl, fun _ x => x.elim⟩, hQ15, k15.weak (fun _ x => x.elim)⟩
  refine wp_seq ?_
  apply stm15 F SB EB (m + 1) (m - z) ks ke st _ sta wd _ w14 w15 T E.sta hwb hLK
  intro _ _ _ _ _ _ _ _ _ _ _ _ _ _ _ v16 q16 w16 hLK16 hbfs16
  refine wp_seq ?_
  apply stm16 F SB EB (m + 1) (m - z) ks ke st _ sta ef et wd q16 v16 w14 w16 T E (fun s _ hs => hst01 s hs) hLK16 hbfs16
  intro _ _ _ _ _ _ _ _ _ _ _ _ _ _ _ _ _ _ _ _ _ _ _ _ _ _ _ _ _ _ _ _ _ _ _ _ _ _ _ _ _ _ _ _ _ _ _ _ _ _ _ v17 q w17 hLK17 hbfs
  obtain ⟨⟨st2, fm17, e2, lp2⟩, hr17, k17⟩ := hLK17
  obtain ⟨qa, qc, rfl⟩ := qslice hr17
  obtain ⟨QB, hqa, hqc⟩ : ∃ QB, (0 < q.length → qa = some ⟨QB, 0, none⟩ ∧ QB < w17.heap.size ∧ QB ≠ F) ∧ ∀ (i s : Nat), q[i]? = some s → w17.cell? ⟨QB, i, none⟩ = some (.int .i32 s) := by
    by_cases q0 : 0 < q.length
    · obtain ⟨QB, qc', hv, tQ, _, _, _, hcell⟩ := row_at hr17 q0
      simp only [Value.slice.injEq] at hv
      exact ⟨QB, fun _ => ⟨hv.1, tyOf_lt tQ, tyOf_ne tQ fm17.tF (by decide)⟩, fun i s his => (hcell i (List.getElem?_eq_some_iff.1 his).1).trans (iL_get his)⟩
    · exact ⟨0, fun h => absurd h q0, fun i s his => absurd (List.getElem?_eq_some_iff.1 his).1 (by omega)⟩
  have nFS : F ≠ SB := tyOf_ne hge.tF hge.tS (by decide)
  have eF17 := k17.block F (tyOf_lt hge.tF) nFS
  have cF : ∀ o, o = 0 ∨ 259 ≤ o → w17.cell? ⟨F, o, none⟩ = w13.cell? ⟨F, o, none⟩ := fun o ho => (World.cell?_of_block eF17).trans (hge.rF o ho)
  have hSle := own_le gf13.oS SB rfl
  have c12 : Below w1.heap.size w1 w12 := hB12.gf.kept.below c6 c6.size (fun _ x => x.elim)
  have h16 := c6.size
  have c13 : Below w1.heap.size w1 w13 := k13.below c12 c12.size (fun g x => by omega)
  have hFle := gf13.le
  have c14 : Below w1.heap.size w1 w14 := k14.below c13 c13.size (fun g x => by rcases x with x | x | ⟨x, _⟩ <;> omega)
  have c17 : Below w1.heap.size w1 w17 := k17.below c14 c14.size (fun g x => by omega)
  have bX : ∀ k, k < w.heap.size → w17.heap[k]? = w.heap[k]? := fun k hk => (c17.block k (by omega)).trans (b1.block k hk)
  have hxl : 0 < n → XB < w.heap.size := fun h => (hx.ad h).2
  have txd : TXd ad XB n tx w17 := ⟨fun h => ⟨(hx.ad h).1, (tyOf_congr (bX XB (hxl h))).trans (hty h)⟩, fun i hi => (World.cell?_of_block (bX XB (hxl (by omega)))).trans (hx.txt i hi), fun i hi => (hx.sz i hi).2, hx.n6⟩
  have hst3 : ∀ s, 0 < s → s < m + 1 → st2 s 0 = ef s ∧ st2 s 1 = et s := fun s _ hs => by
    rw [e2 s 0 (by omega), e2 s 1 (by omega)]; exact hst01 s hs
  have hLP : ∀ s, 0 < s → s < m + 1 → ∃ f : Nat, st2 s 2 = f ∧ LP (m + 1) wd (wd s) f := fun s s0 sN => lp2 s (hbfs.all T _ s (Nat.le_refl _) s0 sN)
  have hs04 : st2 0 4 < 0 := by rw [e2 0 4 (by omega), hst2 0 4 (by omega)]; simp [sc]
  have hw : ∀ s t b, s < m + 1 → t < m + 1 → wd t = wd s ++ [b] → ∃ j, j < n ∧ ∃ k, ∃ hk : k < (tx j).size, (tx j)[k].toNat = b := fun s t b _ ht e => by
    obtain ⟨p, x, hp, hxb, p', rfl⟩ := word_last hbld ht e
    rcases hp with h0 | ⟨j, hj, hpre⟩
    · simp at h0
    · have hk : p'.length < (bl (tx (od j))).length := by have := hpre.length_le; simp at this ⊢; omega
      refine ⟨od j, hod j hj, p'.length, by simpa using hk, ?_⟩
      have e3 : (bl (tx (od j)))[p'.length]? = some x := by
        obtain ⟨r, hr⟩ := hpre
        rw [← hr]
        simp
      rw [List.getElem?_eq_getElem hk] at e3
      have e4 : (tx (od j))[p'.length]'(by simpa using hk) = x := Option.some.inj e3
      rw [e4]; exact hxb
  have md := makeDense_call (qc := qc) T E hst3 hLP hs04 hbfs hw hqa hqc fm17 ((cF 0 (by omega)).trans gf13.c0) ((cF 259 (by omega)).trans ((gf13.cz 259 (by omega) (by omega)).trans Z36_delta)) (fun b hb => (cF (260 + b) (by omega)).trans ((gf13.cz (260 + b) (by omega) (by omega)).trans (Z36_class hb))) ((cF 516 (by omega)).trans ((gf13.cz 516 (by omega) (by omega)).trans Z36_ncls)) txd
  refine wp_seq ?_
  apply stm17 F _ _ w17 md
  rintro _ _ w18 ⟨cl, nc, vD, hD⟩
  obtain ⟨a1, n1, c1, hrng⟩ := hD.range
  have c18 : Below w1.heap.size w1 w18 := hD.kept.below c17 c17.size (fun g x => by omega)
  have hRB18 : w18.heap[w.heap.size + 1]? = some (.cells Z36 36 (0, 0)) := (c18.block _ hRl).trans hRB
  have hvD : vD.oneCell' = true := by
    rcases hD.dn with rfl | ⟨DB, g', rfl, _⟩ <;> rfl
  have hone := fcs_one a1 n1 c1 (.slice (some ⟨SB, 0, none⟩) (m + 1) ks) (.slice (some ⟨EB, 0, none⟩) (m - z) ke) vD sta cl nc rfl rfl hvD
  have hthere : w18.there (w.heap.size + 1) 0 517 := fun j hj => by
    constructor
    · simp only [World.cell?, hRB18, Nat.zero_add]
      rw [Array.getElem?_eq_getElem (by rw [size36]; exact hj)]; rfl
    · exact tyOf_frozen (tyOf_of hRB18) _
  refine wp_seq ?_
  apply stm18 F (w.heap.size + 1) _ w18 (fcs_len _ _ _ _ _ _ _) hrng hthere hone
  rintro _ w19 rfl
  have hk19 := kept_setCells (w.heap.size + 1) (fcs (.slice a1 n1 c1) (.slice (some ⟨SB, 0, none⟩) (m + 1) ks) (.slice (some ⟨EB, 0, none⟩) (m - z) ke) vD sta cl nc) 0 w18
  have hr19 := World.rangeAt_setCells_same w18 (w.heap.size + 1) 0 (fcs (.slice a1 n1 c1) (.slice (some ⟨SB, 0, none⟩) (m + 1) ks) (.slice (some ⟨EB, 0, none⟩) (m - z) ke) vD sta cl nc) (by rw [fcs_len]; exact hthere)
  have hi36 : (Yba.prog.info? 36).map (·.size) = some (fcs (.slice a1 n1 c1) (.slice (some ⟨SB, 0, none⟩) (m + 1) ks) (.slice (some ⟨EB, 0, none⟩) (m - z) ke) vD sta cl nc).length := by rw [fcs_len]; exact size36b
  have hEle : w6.heap.size ≤ EB := own_le hge.oM EB rfl
  have b18 : Below w.heap.size w w18 := b1.trans ⟨c18.os, c18.tape, c18.output, c18.size, fun k hk => c18.block k (by omega)⟩
  have b19 : Below w.heap.size w (w18.setCells (w.heap.size + 1) 0 (fcs (.slice a1 n1 c1) (.slice (some ⟨SB, 0, none⟩) (m + 1) ks) (.slice (some ⟨EB, 0, none⟩) (m - z) ke) vD sta cl nc)) := hk19.below b18 b18.size (fun g x => by omega)
  have hfo : FO tx n SB EB (m + 1) (m - z) ke st2 (fun j => ((g (z + j)).b, (g (z + j)).tt)) sta ef et wd cl nc vD w.heap.size (w18.setCells (w.heap.size + 1) 0 (fcs (.slice a1 n1 c1) (.slice (some ⟨SB, 0, none⟩) (m + 1) ks) (.slice (some ⟨EB, 0, none⟩) (m - z) ke) vD sta cl nc)) := by
    refine ⟨hD.fm.se.kept hk19 (by omega) (by omega), T, E, hst3, hLP, ⟨e, hbld.congr fun p => ?_⟩, hD.lcl, hD.lnc, ?_, ⟨by omega, by omega⟩⟩
    · constructor
      · rintro (h0 | ⟨j, hj, h0⟩)
        · exact .inl h0
        · exact .inr ⟨od j, hod j hj, h0⟩
      · rintro (h0 | ⟨j, hj, h0⟩)
        · exact .inl h0
        · obtain ⟨i, hi, rfl⟩ := hon j hj
          exact .inr ⟨i, hi, h0⟩
    · rcases hD.dn with h0 | ⟨DB, g', h0, h1, h2, h3, h4⟩
      · exact .inl h0
      · have := c17.size
        exact .inr ⟨DB, g', h0, h1, by omega, h3.kept hk19 (by omega), h4⟩
  go_wp2_with fail
  refine bodyPost_ret (results_cell_mid rfl _ _ (w.heap.size + 1) _ _ rfl hr19 Yba.underlying36 rfl hi36) rfl ?_
  exact ⟨_, SB, EB, m + 1, m - z, ks, ke, st2, _, sta, ef, et, wd, cl, nc, vD, rfl, hone, hfo, b19⟩
end Go.Proofs.Ybulkckss
