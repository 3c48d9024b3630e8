import Derived.Test.YbulkckycPlFin
import Derived.Deep.RegionHeld3
namespace Go.Proofs.Ybulkckyc
open Go.RowKit
variable {w0 wx w : World} {W C G : Nat} {D : Dat}

theorem pl_end {D2 D3 : Dat} {i k j b : Nat} {l : List Nat} {w4 : World} (s : St w0 wx W C G D3 w4) (r3 : PRes D2 D3 (k, j) l i) (hcb : D2.cb = D.cb) (hnc : i / 1024 < D2.nc) (hb : D2.rb k = b) :
    St w0 wx W C G (slD D3 i (k, j)) (w4.setCell ⟨D.cb (i / 1024), i % 1024 * 5 + 1, none⟩ (.pointer (some ⟨b, j * 4, none⟩))) ∧ (∃ v, w4.cell? ⟨D.cb (i / 1024), i % 1024 * 5 + 1, none⟩ = some v) ∧ w4.frozen? ⟨D.cb (i / 1024), i % 1024 * 5 + 1, none⟩ = false := by
  have e1 : D3.cb = D2.cb := by rw [r3.only]
  have e2 : D3.nc = D2.nc := by rw [r3.only]
  have e3 : D3.rb = D2.rb := by rw [r3.only]
  have h := s.setE (i / 1024) (by rw [e2]; exact hnc) (i % 1024 * 5 + 1) (D3.slotP (k, j))
  have h1 : D3.slotP (k, j) = .pointer (some ⟨b, j * 4, none⟩) := by unfold Dat.slotP; rw [e3]; simp only; rw [hb]
  have tE := s.fE.ty (i / 1024) (by rw [e2]; exact hnc)
  have cE := s.fE.cell (i / 1024) (i % 1024 * 5 + 1) (by rw [e2]; exact hnc) (by omega)
  rw [e1, hcb] at tE cE
  refine ⟨?_, ⟨_, cE⟩, tyOf_frozen tE _⟩
  unfold slD
  rw [← hcb, ← e1, ← h1]
  exact h
theorem start_hi {D1 : Dat} {qs : List (Nat × Nat)} (h : HI D1 qs) (k j : Nat) (x : Int) : HI { D1 with rc := up2 D1.rc k (j * 4) (.int .i64 x) } qs := by
  refine ⟨h.qv, h.bd, fun p s hp => ?_, fun k' j' hk hj hn => ?_, fun k' j' hk hj => ?_, h.ln⟩
  · exact (up2_ne (fun y => by omega)).trans (h.ix p s hp)
  · exact (up2_ne (fun y => by omega)).trans (h.ox k' j' hk hj hn)
  · by_cases e : k' = k ∧ j' * 4 = j * 4
    · refine ⟨x, ?_⟩
      show up2 D1.rc k (j * 4) (.int .i64 x) k' (j' * 4) = _
      rw [e.1, e.2, up2_same]
    · obtain ⟨z, hz⟩ := h.st k' j' hk hj
      exact ⟨z, (up2_ne e).trans hz⟩

set_option maxHeartbeats 8000000 in
set_option maxRecDepth 100000 in
theorem place_call {cap n i : Nat} {L : Nat × Nat → List Nat} {qs : List (Nat × Nat)} (s : St w0 wx W C G D w) (kon : Kon C G cap D.wc) (hlv : D.lv = (List.range D.nl).map D.ringV) (h8 : D.nl ≤ 8) (hcv : D.cv = (List.range D.nc).map D.chunkP)
    (hHI : HI D qs) (hqs : ∀ s, s ∈ qs ↔ L s ≠ []) (hhd : ∀ k j, k < D.nl → j < 20 → Heads D (k, j) (L (k, j))) (hle : ∀ s x, x ∈ L s → 1 ≤ x ∧ x / 1024 < D.nc ∧ x < 2147483648) (hi1 : 1 ≤ i) (hi2 : i / 1024 < D.nc) (hil : ∀ s, i ∉ L s)
    (hdue : D.ent i 2 = .int .i64 ((n : Int) * 1000000)) (hn : n < 4294967296) (hql : qs.length < 2500) :
    Calls Yba.prog 18 #[.pointer (some ⟨W, 0, none⟩), .int .i32 i, .pointer (some ⟨D.cb (i / 1024), i % 1024 * 5, none⟩)] w fun e w' => IsB e ∧ ∃ D' qs' sl, St w0 wx W C G D' w' ∧ PlRes D D' L qs qs' sl i := by
  have cells : ∀ w', St w0 wx W C G D w' → w'.cell? ⟨W, 10, none⟩ = some (.slice (some ⟨G, 0, none⟩) 15 cap) ∧ w'.cell? ⟨W, 15, none⟩ = some (.int .i64 0) ∧ w'.cell? ⟨D.cb (i / 1024), i % 1024 * 5 + 2, none⟩ = some (.int .i64 ((n : Int) * 1000000)) ∧
      w'.cell? ⟨W, 4, none⟩ = some (.int .i64 1000000) ∧ w'.cell? ⟨W, 5, none⟩ = some (.int .u64 9671406556917033398) ∧ w'.cell? ⟨W, 6, none⟩ = some (.int .u64 19) := fun w' s' =>
    ⟨(s'.fW.cell 0 10 (by omega) (by omega)).trans (congrArg some kon.k10), (s'.fW.cell 0 15 (by omega) (by omega)).trans (congrArg some kon.k15), (s'.fE.cell (i / 1024) (i % 1024 * 5 + 2) hi2 (by omega)).trans (congrArg some hdue),
     (s'.fW.cell 0 4 (by omega) (by omega)).trans (congrArg some kon.k4), (s'.fW.cell 0 5 (by omega) (by omega)).trans (congrArg some kon.k5), (s'.fW.cell 0 6 (by omega) (by omega)).trans (congrArg some kon.k6)⟩
  go_enter Yba.func18, Yba.ntmps18
  go_wp2_with fail
  go_cut [7, 8] (fun x y wc => ∃ k m : Nat, k ≤ 7 ∧ m < 20 ∧ x = .int .i64 k ∧ y = .int .i64 m ∧ St w0 wx W C G D wc)
  case first =>
    go_region_held3 (fun w' => w'.cell? ⟨W, 10, none⟩ = some (.slice (some ⟨G, 0, none⟩) 15 cap) ∧ w'.cell? ⟨W, 15, none⟩ = some (.int .i64 0) ∧ w'.cell? ⟨D.cb (i / 1024), i % 1024 * 5 + 2, none⟩ = some (.int .i64 ((n : Int) * 1000000)) ∧
      w'.cell? ⟨W, 4, none⟩ = some (.int .i64 1000000) ∧ w'.cell? ⟨W, 5, none⟩ = some (.int .u64 9671406556917033398) ∧ w'.cell? ⟨W, 6, none⟩ = some (.int .u64 19))
      (first | exact cells _ s.drew | exact cells _ s1 | exact cells _ s2 | go_keep)
      (first
        | (go_at_call 35; refine (ceil_call s.drew hn).mono ?_; rintro e w1 ⟨rfl, s1⟩)
        | (go_at_call 34; refine (slot_call (cap := cap) s1 hn).mono ?_; rintro e w2 ⟨k, m, hk, hm, rfl, s2⟩))
    all_goals
      go_wp2_with fail
      go_meet
      exact ⟨k, m, hk, hm, rfl, rfl, s2⟩
  case rest =>
    obtain ⟨k, m, hk, hm, rfl, rfl, s1⟩ := hcut
    clear cells
    obtain ⟨i0, hi0, hz0, hz1, hz2⟩ := info_parts Yba.info121
    have hkI : (k : Int) ≤ 7 := by omega
    go_wp2_with fail
    go_loopw [] (fun wr => ∃ D1, LvRes D D1 ∧ D1.nl ≤ 8 ∧ St w0 wx W C G D1 wr) (fun wr => 8 - lvLen W wr)
    case atStart => exact ⟨D, LvRes.refl hlv, h8, s1⟩
    case round =>
      obtain ⟨D1, r1, h81, s2⟩ := hrel
      by_cases hlt : D1.nl ≤ k
      · obtain ⟨ad, vcap, hv⟩ := lv_val s2 r1.lv
        have hmeas := lvLen_eq s2 r1.lv
        have c16 := (s2.fW.cell 0 16 (by omega) (by omega)).trans (congrArg some hv)
        have c7 := (s2.fW.cell 0 7 (by omega) (by omega)).trans (congrArg some ((r1.wc 7 (by decide)).trans kon.k7))
        have hI : (D1.nl : Int) ≤ (k : Int) := by omega
        have hll : D1.lv.length = D1.nl := by rw [r1.lv]; simp
        have ho := s2.oL
        rw [hv, hll] at ho
        have HV : Hid (D1.wc 0 16 = .slice ad D1.nl vcap) := hv
        clear hv
        go_wp2_with fail
        have h63 : D1.nl + 1 ≤ maxLen := by unfold maxLen; omega
        have hby : (D1.nl + 1) * 24 ≤ 140737488355328 := by omega
        go_region_law (first
            | ((refine step_append2 (by rfl) (.tmp 42) (.tmp 50) 47 (by rfl) w0.heap.size 121 i0 (.agg #[.slice none 0 0]) 1 24 Yba.underlying47 hi0 hz0 hz1 hz2 rfl (by decide) (.slice ad D1.nl vcap) D1.nl D1.lv (by rfl) (ho3.alloc _) ⟨w3.heap.size, 0, none⟩ 1 1 [.slice (some ⟨wr.heap.size, 0, none⟩) 20 20] (by rfl) (by rfl) hnews hone h63 hby hbase (by decide) ?_
                intro g' cap' wa ho' hg' _
                have kk : Kept (fun j => (Value.slice ad D1.nl vcap).ownBlock = some j) w3 wa := ⟨hg'.os, hg'.tape, hg'.output, Nat.le_trans (by simp) hg'.size, fun j hj hS => (hg'.block j (by simp; omega) (fun e => hS e.symm)).trans (Below.heap_alloc _ _ j hj)⟩
                have sWa := kk.block W (tyOf_lt tW3) hnW
                have a16 := (World.cell?_of_block (a := ⟨W, 16, none⟩) sWa).trans d16
                have a7 := (World.cell?_of_block (a := ⟨W, 7, none⟩) sWa).trans d7
                have fWa := tyOf_frozen ((tyOf_congr sWa).trans tW3) 16))
            | (go_wp2_with (go_at_call 36; refine (newRing_walk _).mono ?_; rintro e w3 ⟨rfl, hr, hb, -⟩)
               have s3 := s2.drew.new hb
               have d16 := (s3.fW.cell 0 16 (by omega) (by omega)).trans (congrArg some HV.out)
               have d7 := (s3.fW.cell 0 7 (by omega) (by omega)).trans (congrArg some ((r1.wc 7 (by decide)).trans kon.k7))
               have e16 : (w3.alloc (.cells #[.slice (some ⟨wr.heap.size, 0, none⟩) 20 20] 121)).cell? ⟨W, 16, none⟩ = some (.slice ad D1.nl vcap) := (World.cell?_of_block (Below.heap_alloc _ _ W (tyOf_lt (s3.fW.ty 0 (by omega))))).trans d16
               have e7 : (w3.alloc (.cells #[.slice (some ⟨wr.heap.size, 0, none⟩) 20 20] 121)).cell? ⟨W, 7, none⟩ = some (.int .i64 20) := (World.cell?_of_block (Below.heap_alloc _ _ W (tyOf_lt (s3.fW.ty 0 (by omega))))).trans d7
               have ho3 : w3.ownsRow w0.heap.size 121 1 (.slice ad D1.nl vcap) D1.nl D1.lv := (Kept.of_below hb).owns ho (fun _ _ x => x)
               have tW3 := s3.fW.ty 0 (by omega)
               have hnews := new_cells1 w3 (.slice (some ⟨wr.heap.size, 0, none⟩) 20 20) 121
               have hbase : w0.heap.size ≤ (w3.alloc (.cells #[.slice (some ⟨wr.heap.size, 0, none⟩) 20 20] 121)).heap.size := Nat.le_trans s3.sz (by simp)
               have hnW : ¬ (Value.slice ad D1.nl vcap).ownBlock = some W := fun e => tyOf_ne tW3 (own_ty ho3 W e) (by decide) rfl
               have hone : ∀ u ∈ [Value.slice (some ⟨wr.heap.size, 0, none⟩) 20 20], u.oneCell' = true := fun u hu => by
                 simp only [List.mem_cons, List.not_mem_nil, or_false] at hu
                 subst hu; rfl))
        all_goals
          have st : St w0 wx W C G (lvD D1 wr.heap.size (.slice (some ⟨g', 0, none⟩) (D1.nl + 1) cap')) (wa.setCell ⟨W, 16, none⟩ (.slice (some ⟨g', 0, none⟩) (D1.nl + 1) cap')) :=
            lv_step s3 hr s2.sz (fun j hj => Nat.ne_of_lt (tyOf_lt (s2.fR.ty j hj))) (by rw [HV.out]; exact kk) hll ho'
          have hm2 := lvLen_eq st (r1.step _ _).lv
          have HM : Hid (lvLen W wr = D1.nl) := hmeas
          have HM2 : Hid (lvLen W (wa.setCell ⟨W, 16, none⟩ (.slice (some ⟨g', 0, none⟩) (D1.nl + 1) cap')) = D1.nl + 1) := hm2
          clear hmeas hm2
          go_wp2_with fail
          go_roundw
          case rel => exact ⟨_, r1.step _ _, Nat.le_trans (Nat.succ_le_succ hlt) (by omega), st⟩
          case measure => rw [HM.out, HM2.out]; omega
      · have hk1 : k < D1.nl := by omega
        have hkl : (k : Int) < (D1.nl : Int) := by omega
        have hkl0 : (0 : Int) ≤ (k : Int) := by omega
        have hm0 : (0 : Int) ≤ (m : Int) := by omega
        have hm1 : (m : Int) < 20 := by omega
        obtain ⟨g, gcap, hv, _⟩ := lv_row s2 r1.lv hk1
        have cellsB : ∀ w', St w0 wx W C G D1 w' → w'.cell? ⟨W, 16, none⟩ = some (.slice (some ⟨g, 0, none⟩) D1.nl gcap) ∧ w'.cell? ⟨g, k, none⟩ = some (.slice (some ⟨D1.rb k, 0, none⟩) 20 20) ∧
            w'.cell? ⟨W, 7, none⟩ = some (.int .i64 20) ∧ w'.cell? ⟨W, 8, none⟩ = some (.int .u64 14757395258967641293) ∧ w'.cell? ⟨W, 9, none⟩ = some (.int .u64 4) := fun w' s' => by
          obtain ⟨g2, gcap2, hv2, hc⟩ := lv_row s' r1.lv hk1
          have hg2 := hv.symm.trans hv2
          simp only [Value.slice.injEq, Option.some.injEq, Addr.mk.injEq, and_true, true_and] at hg2
          obtain ⟨rfl, rfl⟩ := hg2
          exact ⟨(s'.fW.cell 0 16 (by omega) (by omega)).trans (congrArg some hv), hc, (s'.fW.cell 0 7 (by omega) (by omega)).trans (congrArg some ((r1.wc 7 (by decide)).trans kon.k7)),
            (s'.fW.cell 0 8 (by omega) (by omega)).trans (congrArg some ((r1.wc 8 (by decide)).trans kon.k8)), (s'.fW.cell 0 9 (by omega) (by omega)).trans (congrArg some ((r1.wc 9 (by decide)).trans kon.k9))⟩
        have c16 := (cellsB _ s2).1
        clear hv
        go_wp2_with fail
        go_region_held3 (fun w' => w'.cell? ⟨W, 16, none⟩ = some (.slice (some ⟨g, 0, none⟩) D1.nl gcap) ∧ w'.cell? ⟨g, k, none⟩ = some (.slice (some ⟨D1.rb k, 0, none⟩) 20 20) ∧
            w'.cell? ⟨W, 7, none⟩ = some (.int .i64 20) ∧ w'.cell? ⟨W, 8, none⟩ = some (.int .u64 14757395258967641293) ∧ w'.cell? ⟨W, 9, none⟩ = some (.int .u64 4))
          (first | exact cellsB _ s2.drew | exact cellsB _ s3 | go_keep)
          (first | (go_at_call 37; refine (rem_call s2.drew hm).mono ?_; rintro e w3 ⟨rfl, s3⟩))
        clear cellsB c16
        have hHI1 := hHI.levels r1
        have e_cb : D1.cb = D.cb := by rw [r1.only]
        have e_nc : D1.nc = D.nc := by rw [r1.only]
        have e_cv : D1.cv = (List.range D1.nc).map D1.chunkP := by
          have e : D1.chunkP = D.chunkP := by funext c; unfold Dat.chunkP; rw [e_cb]
          rw [e, e_nc]; rw [r1.only]; exact hcv
        have hle1 : ∀ x, x ∈ L (k, m) → 1 ≤ x ∧ x / 1024 < D1.nc ∧ x < 2147483648 := fun x hx => by rw [e_nc]; exact hle _ x hx
        have hh1 := heads_levels hHI hqs hhd r1 hk1 hm
        have fin := fun {D2 D3 : Dat} {qs' : List (Nat × Nat)} => pl_fin (D2 := D2) (D3 := D3) (qs' := qs') (i := i) hHI hqs hhd r1 h81 hk1 hm
        have tR := tyOf_frozen (s3.fR.ty k hk1)
        by_cases hmem : (k, m) ∈ qs
        · obtain ⟨p, hp⟩ := List.mem_iff_getElem?.1 hmem
          have ci := (s3.fR.cell k (m * 4 + 1) hk1 (by omega)).trans (congrArg some (hHI1.ix p _ hp))
          have P := lpush_call s3.drew e_cv hk1 hm hi1 (by rw [e_nc]; exact hi2) (hil (k, m)) hle1 hh1.2
          rw [e_cb] at P
          have hp0 : (0 : Int) ≤ (p : Int) := by omega
          clear tR
          go_wp2_with fail
          go_region_with (go_at_call 39; refine P.mono ?_; rintro e w4 ⟨rfl, D3, s4, r3⟩)
          all_goals
            obtain ⟨st, ⟨v4, c4⟩, f4⟩ := pl_end (D := D) s4 r3 e_cb (by rw [e_nc]; exact hi2) rfl
            have F := fin (QRes.refl hHI1 hmem) r3
            clear P ci s3
            go_wp2_with fail
            go_ret
            exact ⟨⟨_, rfl⟩, _, qs, (k, m), st, F⟩
        · have ci := (s3.fR.cell k (m * 4 + 1) hk1 (by omega)).trans (congrArg some (hHI1.ox k m hk1 hm hmem))
          have c10 := (s3.fW.cell 0 10 (by omega) (by omega)).trans (congrArg some ((r1.wc 10 (by decide)).trans kon.k10))
          have cg := (s3.hG.2 k (by omega)).1
          have cst := s3.fR.cell k (m * 4) hk1 (by omega)
          have f0 := tR (m * 4)
          have PP : ∀ x : Int, Calls Yba.prog 38 #[.iface 109 (.pointer (some ⟨W, 17, none⟩)), .iface 93 (.pointer (some ⟨D1.rb k, m * 4, none⟩))] (w3.setCell ⟨D1.rb k, m * 4, none⟩ (.int .i64 x)) fun e w' => e = .returned (.tuple #[]) ∧ ∃ D' qs', St w0 wx W C G D' w' ∧ HI D' qs' ∧ OnlyQ { D1 with rc := up2 D1.rc k (m * 4) (.int .i64 x) } D' ∧ Same (qs ++ [(k, m)]) qs' :=
            fun x => hpush_call (start_hi hHI1 k m x) (s3.setR k hk1 (m * 4) (.int .i64 x)) hmem ⟨hk1, hm⟩ hql
          clear tR
          generalize pw k = z at cg
          go_wp2_with fail
          refine (PP _).mono ?_
          rintro e w4 ⟨rfl, D2, qs', s4, h2, o2, sm⟩
          clear PP ci c10 cg cst f0
          have r2 : QRes D1 D2 qs qs' (k, m) := QRes.push o2 h2 sm
          have g_cb : D2.cb = D.cb := by rw [r2.only]; exact e_cb
          have g_nc : D2.nc = D.nc := by rw [r2.only]; exact e_nc
          have g_nl : D2.nl = D1.nl := by rw [r2.only]
          have g_rb : D2.rb = D1.rb := by rw [r2.only]
          have g_cv : D2.cv = (List.range D2.nc).map D2.chunkP := by
            have e : D2.chunkP = D1.chunkP := by funext c; unfold Dat.chunkP; rw [g_cb, e_cb]
            rw [e, g_nc, ← e_nc]; rw [r2.only]; exact e_cv
          have P := lpush_call s4.drew g_cv (k := k) (j := m) (by rw [g_nl]; exact hk1) hm hi1 (by rw [g_nc]; exact hi2) (hil (k, m)) (fun x hx => by rw [g_nc]; exact hle _ x hx) ((r2.rc _ _ (by simp only; omega)).trans hh1.2)
          rw [g_cb, g_rb] at P
          go_wp2_with fail
          go_region_with (go_at_call 39; refine P.mono ?_; rintro e w5 ⟨rfl, D3, s5, r3⟩)
          all_goals
            obtain ⟨st, ⟨v4, c4⟩, f4⟩ := pl_end (D := D) (b := D1.rb k) s5 r3 g_cb (by rw [g_nc]; exact hi2) (by rw [g_rb])
            have F := fin r2 r3
            clear P s4 s3
            go_wp2_with fail
            go_ret
            exact ⟨⟨_, rfl⟩, _, qs', (k, m), st, F⟩
end Go.Proofs.Ybulkckyc
