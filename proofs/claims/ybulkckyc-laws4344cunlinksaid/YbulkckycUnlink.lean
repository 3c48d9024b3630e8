import Derived.Test.YbulkckycUnFin
namespace Go.Proofs.Ybulkckyc
open Go.RowKit
variable {w0 wx w : World} {W C G : Nat} {D : Dat}

set_option maxHeartbeats 4000000 in
set_option maxRecDepth 100000 in
theorem unlink_call {cap a : Nat} {live : Nat → Bool} {L : Nat × Nat → List Nat} {qs : List (Nat × Nat)} (h : Inv C G cap D a live L qs) (s : St w0 wx W C G D w) {i : Nat} (hia : i < a) (hl : live i = true) :
    Calls Yba.prog 13 #[.pointer (some ⟨W, 0, none⟩), .pointer (some ⟨D.tb i, 0, none⟩)] w fun e w' => e = .returned (.tuple #[]) ∧ Unl w0 wx W C G cap D a live i w' := by
  have hc1 := cnt_off hia hl
  obtain ⟨sl, hsl⟩ := h.ll i hia hl
  obtain ⟨p, hp⟩ := List.mem_iff_getElem?.1 hsl
  obtain ⟨k, j⟩ := sl
  obtain ⟨hk, hj⟩ := h.hi.bd (k, j) ((h.ql _).2 (List.ne_nil_of_mem hsl))
  have hcv := h.cv (.inl (by omega))
  have hnc : D.nc = a / 1024 + 1 := by rcases h.nc with x | x <;> omega
  have ha := h.a25
  have hi2 : (i + 1) / 1024 < D.nc := by rw [hnc]; omega
  obtain ⟨g, gcap, hv, tg, hcap, hrow⟩ := chunk_row s hcv (by omega)
  have tT : D.tc i 3 = .int .i32 ((i + 1 : Nat) : Int) := by rw [h.tm i hia, hl]; rfl
  have hit : i < D.nt := Nat.lt_of_lt_of_le hia h.nt
  have ct : w.cell? ⟨D.tb i, 3, none⟩ = some (.int .i32 ((i + 1 : Nat) : Int)) := (s.fT.cell i 3 hit (by omega)).trans (congrArg some tT)
  have A1 := at_walk W g D.nc gcap (D.cb ((i + 1) / 1024)) (i + 1) w.drew ((s.fW.cell 0 18 (by omega) (by omega)).trans (congrArg some hv)) (by omega) hi2 (hrow _ hi2)
  go_enter Yba.func13, Yba.ntmps13
  go_wp2_with fail
  go_cut [4] (fun x wc => x = .pointer (some ⟨D.cb ((i + 1) / 1024), (i + 1) % 1024 * 5, none⟩) ∧ wc = w.drew)
  case first =>
    go_region_with (go_at_call 26; refine A1.mono ?_; rintro e w' ⟨rfl, rfl⟩)
    all_goals
      go_wp2_with fail
      go_meet
      exact ⟨rfl, rfl⟩
  case rest =>
    obtain ⟨rfl, rfl⟩ := hcut
    have s1 := s.drew
    have ce := (s1.fE.cell ((i + 1) / 1024) ((i + 1) % 1024 * 5 + 1) hi2 (by omega)).trans (congrArg some (h.le _ _ hsl).2.2.1)
    have ct1 : w.drew.cell? ⟨D.tb i, 3, none⟩ = some (.int .i32 ((i + 1 : Nat) : Int)) := (s1.fT.cell i 3 hit (by omega)).trans (congrArg some tT)
    clear A1 hrow tg hcap hv ct
    generalize w.drew = w1 at *
    have R := lremove_call s1.drew hcv hk hj hp (h.ij _) (fun x hx => by obtain ⟨b1, b2, _⟩ := h.le _ x hx; exact ⟨b1, by rw [hnc]; omega, by omega⟩) (h.ch _)
    unfold Dat.slotP at ce
    go_wp2_with fail
    go_cut [] (fun wc => ∃ D1, St w0 wx W C G D1 wc ∧ LRes D D1 (k, j) (L (k, j)) p (i + 1))
    case first =>
      go_region_with (go_at_call 27; refine R.mono ?_; rintro e w' ⟨rfl, hR⟩)
      all_goals
        go_wp2_with fail
        go_meet
        exact hR
    case rest =>
      obtain ⟨D1, s2, r1⟩ := hcut
      have e_tb : D1.tb = D.tb := by rw [r1.only]
      have e_tc : D1.tc = D.tc := by rw [r1.only]
      have e_nt : D1.nt = D.nt := by rw [r1.only]
      have e_cb : D1.cb = D.cb := by rw [r1.only]
      have e_nc : D1.nc = D.nc := by rw [r1.only]
      have e_wc : D1.wc = D.wc := by rw [r1.only]
      have e_rb : D1.rb = D.rb := by rw [r1.only]
      have e_nl : D1.nl = D.nl := by rw [r1.only]
      have e_cv : D1.cv = (List.range D1.nc).map D1.chunkP := by
        have e : D1.chunkP = D.chunkP := by funext c; unfold Dat.chunkP; rw [e_cb]
        rw [e, e_nc]; rw [r1.only]; exact hcv
      obtain ⟨fr, hfr⟩ := h.fr
      have ct2 := (s2.fT.cell i 3 (by rw [e_nt]; exact hit) (by omega)).trans (congrArg some ((congrFun (congrFun e_tc i) 3).trans tT))
      rw [e_tb] at ct2
      have R2 := release_call s2.drew e_cv (e := i + 1) (u := cnt live a) (by rw [e_nc]; exact hi2) (by rw [e_nc]; omega) (by have := cnt_le live a; omega) ((congrFun (congrFun e_wc 0) 21).trans h.u21) ((congrFun (congrFun e_wc 0) 20).trans hfr)
      rw [e_cb] at R2
      clear R s1 ce ct1 e_cb e_wc e_cv
      go_wp2_with fail
      go_cut [] (fun wc => ∃ D2, St w0 wx W C G D2 wc ∧ RRes D1 D2 (i + 1) (cnt live a))
      case first =>
        go_region_with (go_at_call 28; refine R2.mono ?_; rintro e w' ⟨rfl, hR⟩)
        all_goals
          go_wp2_with fail
          go_meet
          exact hR
      case rest =>
        clear R2 ct2 s2
        obtain ⟨D2, s3, r2⟩ := hcut
        have g_tb : D2.tb = D.tb := by rw [r2.only]; exact e_tb
        have g_tc : D2.tc = D.tc := by rw [r2.only]; exact e_tc
        have g_nt : D2.nt = D.nt := by rw [r2.only]; exact e_nt
        have g_rb : D2.rb = D.rb := by rw [r2.only]; exact e_rb
        have g_nl : D2.nl = D.nl := by rw [r2.only]; exact e_nl
        have g_rc : D2.rc = D1.rc := by rw [r2.only]
        have tt := s3.fT.ty i (by rw [g_nt]; exact hit)
        have tr := s3.fR.ty k (by rw [g_nl]; exact hk)
        have hRT : D.rb k ≠ D.tb i := by
          have := tyOf_ne tr tt (by decide)
          rwa [g_rb, g_tb] at this
        have ct3 := s3.fT.cell i 3 (by rw [g_nt]; exact hit) (by omega)
        have ft3 := tyOf_frozen tt 3
        rw [g_tb] at ct3 ft3
        have hmem := (h.ql (k, j)).2 (List.ne_nil_of_mem hsl)
        obtain ⟨q, hq⟩ := List.mem_iff_getElem?.1 hmem
        have ci := (s3.fR.cell k (j * 4 + 1) (by rw [g_nl]; exact hk) (by omega)).trans (congrArg some (show D2.rc k (j * 4 + 1) = .int .i64 q from by rw [g_rc, r1.rest _ _ (fun x => by have := x.2; simp only at this; omega)]; exact h.hi.ix q _ hq))
        have ch := (s3.fR.cell k (j * 4 + 2) (by rw [g_nl]; exact hk) (by omega)).trans (congrArg some (show D2.rc k (j * 4 + 2) = i32v (((L (k, j)).eraseIdx p).headD 0) from by
          rw [g_rc]
          refine r1.head.trans ?_
          rw [head_erase]
          by_cases e : p = 0
          · rw [if_pos e, if_pos e]
          · rw [if_neg e, if_neg e]; exact (h.hd k j hk hj).1))
        rw [g_rb] at ci ch
        unfold i32v at ch
        have s4 : St w0 wx W C G { D2 with tc := up2 D2.tc i 3 (.int .i32 0) } (wc.setCell ⟨D.tb i, 3, none⟩ (.int .i32 0)) := by
          rw [← g_tb]
          exact s3.setT i (by rw [g_nt]; exact hit) 3 (.int .i32 0)
        have hI3 : HI { D2 with tc := up2 D2.tc i 3 (.int .i32 0) } qs := h.hi.congr (by show D2.qv = _; rw [r2.only]; show D1.qv = _; rw [r1.only]) g_rb g_nl (fun k' o ho => by
          show D2.rc k' o = _
          rw [g_rc]
          exact r1.rest _ _ (fun x => by have := x.2; simp only at this; omega))
        have hqI : 0 ≤ (q : Int) := by omega
        have hfin := fun {D4 : Dat} {qs' : List (Nat × Nat)} (o4 : OnlyQ { D2 with tc := up2 D2.tc i 3 (.int .i32 0) } D4) (hHI : HI D4 qs') => unl_fin (qs' := qs') (D4 := D4) h s hia hl hp hk hj r1 r2 o4 hHI
        have hccx := h.cc
        have hcc2 : D2.cc = D.cc := by rw [r2.only]; show D1.cc = _; rw [r1.only]
        by_cases hemp : (L (k, j)).eraseIdx p = []
        · have ch0 : wc.cell? ⟨D.rb k, j * 4 + 2, none⟩ = some (.int .i32 0) := by rw [ch, hemp]; rfl
          have hrm := hremove_call hI3 s4.drew (i := q) hq
          have hmq : ∀ x, (x ∈ qs ∧ x ≠ (k, j)) ↔ x ∈ qs ∧ (x = (k, j) → (L (k, j)).eraseIdx p ≠ []) := fun x => ⟨fun y => ⟨y.1, fun z => absurd z y.2⟩, fun y => ⟨y.1, fun z => y.2 z hemp⟩⟩
          have hwc0 : ∀ o, o ≠ 17 → (o < 18 ∨ 21 < o) → ∀ {D4 : Dat}, OnlyQ { D2 with tc := up2 D2.tc i 3 (.int .i32 0) } D4 → D4.wc 0 o = D.wc 0 o := fun o h17 ho {D4} o4 => (o4.2.2 o h17).trans ((r2.wc o ho).trans (by rw [r1.only]))
          have hcc4 : ∀ {D4 : Dat}, OnlyQ { D2 with tc := up2 D2.tc i 3 (.int .i32 0) } D4 → D4.cc = D.cc := fun {D4} o4 => by rw [o4.1]; exact hcc2
          have hk0 := h.kon.k0
          clear g_tb g_tc g_nt g_rb g_nl g_rc e_tb e_tc e_nt e_nc e_rb e_nl hcc2 hcv hnc tT ch
          by_cases hq0 : q = 0
          · subst hq0
            rw [show (((0 : Nat) : Int)) = 0 from rfl] at hrm ci
            clear hqI
            go_wp2_with fail
            go_cut [6] (fun b wc' => b = .bool true ∧ ∃ D4 qs4, St w0 wx W C G D4 wc' ∧ HI D4 qs4 ∧ OnlyQ { D2 with tc := up2 D2.tc i 3 (.int .i32 0) } D4 ∧ (∀ s, s ∈ qs4 ↔ s ∈ qs ∧ s ≠ (k, j)) ∧ qs4.length + 1 = qs.length)
            case first =>
              go_region_with (go_at_call 29; refine hrm.mono ?_; rintro e w' ⟨⟨v, rfl⟩, hR⟩)
              all_goals
                go_wp2_with fail
                go_meet
                exact ⟨rfl, hR⟩
            case rest =>
              clear hrm s4 s3 ci ch0 ct3 ft3
              obtain ⟨rfl, D4, qs4, s5, h5, o5, m5, l5⟩ := hcut
              obtain ⟨z, hz⟩ := hccx
              have cw := (s5.fW.cell 0 0 (by omega) (by omega)).trans (congrArg some ((hwc0 0 (by omega) (by omega) o5).trans hk0))
              have mr := meth_rearm (.pointer (some ⟨C, 0, none⟩)) wc
              have RR := rearm_call s5 (by rw [hcc4 o5]; exact hz) (.pointer (some ⟨W, 0, none⟩))
              go_wp2_with fail
              refine RR.mono ?_
              rintro e w6 ⟨rfl, z', s6⟩
              have fin := hfin o5 h5 (fun x => (m5 x).trans (hmq x)) (by omega) _ ⟨z', up2_same _ _ _ _⟩ s6
              go_wp2_with fail
              go_end0
              exact ⟨rfl, fin⟩
          · have hq0b : ((q : Int) == 0) = false := by simp; omega
            go_wp2_with fail
            go_cut [6] (fun b wc' => b = .bool false ∧ ∃ D4 qs4, St w0 wx W C G D4 wc' ∧ HI D4 qs4 ∧ OnlyQ { D2 with tc := up2 D2.tc i 3 (.int .i32 0) } D4 ∧ (∀ s, s ∈ qs4 ↔ s ∈ qs ∧ s ≠ (k, j)) ∧ qs4.length + 1 = qs.length)
            case first =>
              go_region_with (go_at_call 29; refine hrm.mono ?_; rintro e w' ⟨⟨v, rfl⟩, hR⟩)
              all_goals
                go_wp2_with fail
                go_meet
                exact ⟨rfl, hR⟩
            case rest =>
              clear hrm s4 s3 ci ch0 ct3 ft3
              obtain ⟨rfl, D4, qs4, s5, h5, o5, m5, l5⟩ := hcut
              have fin := hfin o5 h5 (fun x => (m5 x).trans (hmq x)) (by omega) D4.cc (by rw [hcc4 o5]; exact hccx) s5
              go_wp2_with fail
              go_end0
              exact ⟨rfl, fin⟩
        · have hpos : ((((L (k, j)).eraseIdx p).headD 0 : Nat) : Int) ≠ 0 := by
            cases hL : (L (k, j)).eraseIdx p with
            | nil => exact absurd hL hemp
            | cons y ys =>
              have hy : y ∈ (L (k, j)).eraseIdx p := by rw [hL]; exact List.mem_cons_self
              have := (h.le _ y ((mem_erase (h.ij _) hp y).1 hy).1).1
              simp; omega
          have hpos2 : (((((L (k, j)).eraseIdx p).headD 0 : Nat) : Int) == 0) = false := by simpa using hpos
          have fin := hfin (Only1.refl _).toQ hI3 (fun x => ⟨fun y => ⟨y, fun _ => hemp⟩, fun y => y.1⟩) (Nat.le_refl _) D2.cc (by rw [hcc2]; exact hccx) s4
          clear hfin g_tb g_tc g_nt g_rb g_nl g_rc e_tb e_tc e_nt e_nc e_rb e_nl hccx hcc2 hcv hnc tT
          generalize ((L (k, j)).eraseIdx p).headD 0 = hv at *
          go_wp2_with fail
          go_end0
          exact ⟨rfl, fin⟩
end Go.Proofs.Ybulkckyc
