import Derived.Test.YbulkckycPlWalk
import Derived.Test.YbulkckycInvArm
namespace Go.Proofs.Ybulkckyc
open Go.RowKit
variable {w0 wx w : World} {W C G : Nat} {D : Dat}

/-- what stands behind arm -/
structure Arm (w0 wx : World) (W C G cap : Nat) (D : Dat) (a : Nat) (live : Nat → Bool) (w' : World) : Prop where
  out : ∃ D' L' qs', St w0 wx W C G D' w' ∧ D'.tb = D.tb ∧ D'.nt = D.nt ∧ Inv C G cap D' (a + 1) (upB live a true) L' qs'

set_option maxHeartbeats 4000000 in
set_option maxRecDepth 100000 in
theorem arm_call {cap a n : Nat} {live : Nat → Bool} {L : Nat × Nat → List Nat} {qs : List (Nat × Nat)} (h : Inv C G cap D a live L qs) (s : St w0 wx W C G D w) (hall : cnt live a = a) (ha : a < 2500) (hnt : a < D.nt) (hn : n < 4294967296) :
    Calls Yba.prog 9 #[.pointer (some ⟨W, 0, none⟩), .pointer (some ⟨D.tb a, 0, none⟩), .int .i64 0, .int .i64 ((n : Int) * 1000000)] w fun e w' => e = .returned (.tuple #[]) ∧ Arm w0 wx W C G cap D a live w' := by
  have cW := fun o (ho : o < 41) => s.fW.cell 0 o (by omega) ho
  have c4 := (cW 4 (by omega)).trans (congrArg some h.kon.k4)
  have c5 := (cW 5 (by omega)).trans (congrArg some h.kon.k5)
  have c6 := (cW 6 (by omega)).trans (congrArg some h.kon.k6)
  have c26 := (cW 26 (by omega)).trans (congrArg some h.kon.k26)
  have Q := quo_tick 0 (by omega) w
  have e0 : (((0 : Nat) : Int) * 1000000) = 0 := by omega
  rw [e0] at Q
  clear cW
  go_enter Yba.func9, Yba.ntmps9
  go_wp2_with fail
  refine Q.mono ?_
  rintro e w1 ⟨rfl, hb1⟩
  have s1 := s.new hb1
  clear Q c4 c5 c6 c26 hb1
  have CU := catchUp_call h s1
  go_wp2_with fail
  refine CU.mono ?_
  rintro e w2 ⟨rfl, rfl⟩
  clear CU
  have T := take_call h s1 hall ha (some ⟨D.tb a, 0, none⟩) ((n : Int) * 1000000)
  go_wp2_with fail
  refine T.mono ?_
  rintro e w3 ⟨D1, rfl, s3, r1⟩
  clear T
  have e_tb : D1.tb = D.tb := by rw [r1.only]
  have e_nt : D1.nt = D.nt := by rw [r1.only]
  have e_nl : D1.nl = D.nl := by rw [r1.only]
  have e_rb : D1.rb = D.rb := by rw [r1.only]
  have e_rc : D1.rc = D.rc := by rw [r1.only]
  have e_lv : D1.lv = D.lv := by rw [r1.only]
  have e_qv : D1.qv = D.qv := by rw [r1.only]
  have e_cc : D1.cc = D.cc := by rw [r1.only]
  have tt := s3.fT.ty a (by rw [e_nt]; exact hnt)
  have ct := s3.fT.cell a 3 (by rw [e_nt]; exact hnt) (by omega)
  have ft := tyOf_frozen tt 3
  rw [e_tb] at ct ft
  have s4 : St w0 wx W C G (tmD D1 a) (w3.setCell ⟨D.tb a, 3, none⟩ (.int .i32 ((a + 1 : Nat) : Int))) := by
    rw [← e_tb]
    exact s3.setT a (by rw [e_nt]; exact hnt) 3 (i32v (a + 1))
  have hbnd : ∀ x y, y ∈ L x → 1 ≤ y ∧ y ≤ a := fun x y hy => ⟨(h.le x y hy).1, (h.le x y hy).2.1⟩
  have P := place_call (n := n) (i := a + 1) (L := L) (qs := qs) s4 (h.kon.of (fun o ho h27 => r1.wc o (by omega)))
    (by
      have e : (tmD D1 a).ringV = D.ringV := by funext x; show Value.slice (some ⟨D1.rb x, _, _⟩) _ _ = _; rw [e_rb]; rfl
      show D1.lv = (List.range D1.nl).map (tmD D1 a).ringV
      rw [e, e_lv, e_nl]; exact h.lv)
    (by show D1.nl ≤ 8; rw [e_nl]; exact h.nl) r1.cv
    (h.hi.congr e_qv e_rb e_nl (fun x o _ => by show D1.rc x o = _; rw [e_rc])) h.ql
    (fun x y hx hy => by
      have hh := h.hd x y (by rw [← e_nl]; exact hx) hy
      exact ⟨by show D1.rc _ _ = _; rw [e_rc]; exact hh.1, by show D1.rc _ _ = _; rw [e_rc]; exact hh.2⟩)
    (fun x y hy => by
      obtain ⟨b1, b2⟩ := hbnd x y hy
      refine ⟨b1, ?_, by omega⟩
      show y / 1024 < D1.nc
      rw [r1.nc]; omega)
    (by omega) (by show (a + 1) / 1024 < D1.nc; rw [r1.nc]; omega) (fun x hx => by have := (hbnd x _ hx).2; omega) r1.due hn (by have := h.qa; omega)
  have hcc := h.cc
  rw [← e_cc] at hcc
  have hk0 : ∀ D3 : Dat, D3.wc 0 0 = D1.wc 0 0 → D3.wc 0 0 = .iface 23 (.pointer (some ⟨C, 0, none⟩)) := fun D3 e => e.trans ((r1.wc 0 (by omega)).trans h.kon.k0)
  have h27 : D1.wc 0 27 = .int .u64 ((a : Nat) : Int) := by
    rw [r1.wc 27 (by omega), h.u27, hall]
  have fin : ∀ {D3 : Dat} {qs' : List (Nat × Nat)} {sl : Nat × Nat} {cc : Nat → Nat → Value} {w' : World}, PlRes (tmD D1 a) D3 L qs qs' sl (a + 1) → (∃ z : Int, cc 0 0 = .int .i64 z) → St w0 wx W C G (inD D3 a cc) w' → Arm w0 wx W C G cap D a live w' := fun {D3 qs' sl cc w'} r2 hc st =>
    ⟨inD D3 a cc, _, qs', st, by show D3.tb = _; rw [r2.only]; exact e_tb, by show D3.nt = _; rw [r2.only]; exact e_nt, inv_arm h s hall ha hnt r1 r2 hc⟩
  have hnc1 := r1.nc
  clear e_tb e_nl e_rb e_rc e_lv e_qv e_cc e_nt
  have haI : (a : Int) < 2500 := by omega
  go_wp2_with fail
  refine P.mono ?_
  rintro e w5 ⟨⟨b, rfl⟩, D3, qs', sl, s5, r2⟩
  clear P s4 ct ft tt s3 s1
  have g_cb : D3.cb = D1.cb := by rw [r2.only]; rfl
  have g_nc : D3.nc = D1.nc := by rw [r2.only]; rfl
  have g_cc : D3.cc = D1.cc := by rw [r2.only]; rfl
  have ce := (s5.fE.cell ((a + 1) / 1024) ((a + 1) % 1024 * 5 + 1) (by rw [g_nc, hnc1]; omega) (by omega)).trans (congrArg some r2.e1)
  rw [g_cb] at ce
  unfold Dat.slotP at ce
  obtain ⟨p, hp⟩ := List.mem_iff_getElem?.1 ((r2.qm sl).2 (.inr rfl))
  have cx := (s5.fR.cell sl.1 (sl.2 * 4 + 1) r2.bs.1 (by have := r2.bs.2; omega)).trans (congrArg some (r2.hi.ix p sl hp))
  have c27 := (s5.fW.cell 0 27 (by omega) (by omega)).trans (congrArg some ((r2.wc 27 (by decide) (by decide)).trans h27))
  have f27 := tyOf_frozen (s5.fW.ty 0 (by omega)) 27
  have c0 := (s5.fW.cell 0 0 (by omega) (by omega)).trans (congrArg some (hk0 D3 (r2.wc 0 (by decide) (by decide))))
  have st := s5.setW 27 (.int .u64 ((a + 1 : Nat) : Int)) (by decide) (by decide) (by decide)
  rw [← g_cc] at hcc
  have F := fin (cc := D3.cc) r2 hcc st
  have ea : ((a + 1 : Nat) : Int) = (a : Int) + 1 := by omega
  rw [ea] at F st
  clear hk0 h27 g_cb g_nc g_cc hnc1
  cases b
  · go_wp2_with fail
    go_end0
    exact ⟨rfl, F⟩
  · by_cases hp0 : p = 0
    · subst hp0
      rw [show (((0 : Nat) : Int)) = 0 from rfl] at cx
      obtain ⟨z, hz⟩ := hcc
      have mr := meth_rearm (.pointer (some ⟨C, 0, none⟩)) w5
      have RR := rearm_call s5 hz (.pointer (some ⟨W, 0, none⟩))
      clear F st
      go_wp2_with fail
      refine RR.mono ?_
      rintro e w6 ⟨rfl, z', s6⟩
      have d27 := (s6.fW.cell 0 27 (by omega) (by omega)).trans ((s5.fW.cell 0 27 (by omega) (by omega)).symm.trans c27)
      have g27 := tyOf_frozen (s6.fW.ty 0 (by omega)) 27
      have st := s6.setW 27 (.int .u64 ((a + 1 : Nat) : Int)) (by decide) (by decide) (by decide)
      have F := fin (cc := up2 D3.cc 0 0 (.int .i64 z')) r2 ⟨z', up2_same _ _ _ _⟩ st
      rw [ea] at F st
      clear RR mr c27 f27 c0 cx ce
      go_wp2_with fail
      go_end0
      exact ⟨rfl, F⟩
    · have hpb : ((p : Int) == 0) = false := by simp; omega
      go_wp2_with fail
      go_end0
      exact ⟨rfl, F⟩
end Go.Proofs.Ybulkckyc
