import Derived.Test.YbulkckycLawSt
import Derived.Test.YbulkckycArm
import Derived.Test.YbulkckycWithdraw
import Derived.Test.YbulkckycEndedWalk
namespace Go.Proofs.Ybulkckyc
open Go.RowKit Go.MuLone
variable {w0 wx w : World} {W C G : Nat} {D : Dat}

theorem Yba.info74 : (Yba.prog.info? 74).map (fun i => (i.zero, i.size, i.bytes)) = some (some (.pointer none), 1, 8) := by kernel_rfl
theorem Yba.info4 : (Yba.prog.info? 4).map (fun i => (i.zero, i.size, i.bytes)) = some (some (.bool false), 1, 1) := by kernel_rfl

/-- what the arming loop keeps -/
structure Armed (w0 : World) (W C G cap T n i : Nat) (w : World) : Prop where
  out : ∃ D L qs, St w0 w W C G D w ∧ Inv C G cap D i (fun _ => true) L qs ∧ D.nt = i ∧ RowP 74 T n (fun j => if j < i then .pointer (some ⟨D.tb j, 0, none⟩) else .pointer none) w
/-- what the other loops keep -/
structure Held (w0 : World) (W C G cap T K n : Nat) (live : Nat → Bool) (kv : Nat → Bool) (w : World) : Prop where
  out : ∃ D L qs, St w0 w W C G D w ∧ Inv C G cap D n live L qs ∧ RowP 74 T n (fun j => .pointer (some ⟨D.tb j, 0, none⟩)) w ∧ RowP 4 K n (fun j => .bool (kv j)) w

theorem cnt_true (a : Nat) : cnt (fun _ => true) a = a := by
  induction a with
  | zero => rfl
  | succ a ih => unfold cnt; rw [ih]; rfl
theorem cnt_zero {live : Nat → Bool} {a : Nat} (h : ∀ i, i < a → live i = false) : cnt live a = 0 := by
  induction a with
  | zero => rfl
  | succ a ih => unfold cnt; rw [ih (fun i hi => h i (by omega)), h a (by omega)]; rfl

/-- a new timer -/
def tmNew (D : Dat) (B W : Nat) : Dat := { D with nt := D.nt + 1, tb := fun k => if k = D.nt then B else D.tb k, tc := fun k o => if k = D.nt then (#[Value.pointer (some ⟨W, 0, none⟩), .nilFunc, .pointer none, .int .i32 0] : Array Value).getD o .nilFunc else D.tc k o }
theorem tm_new (s : St w0 wx W C G D w) : St w0 wx W C G (tmNew D w.heap.size W) (w.alloc (.cells #[.pointer (some ⟨W, 0, none⟩), .nilFunc, .pointer none, .int .i32 0] 76)) := by
  have hb := (MapKept.heap_alloc w (.cells #[.pointer (some ⟨W, 0, none⟩), .nilFunc, .pointer none, .int .i32 0] 76)).1
  have s1 := s.new (w' := w.alloc (.cells #[.pointer (some ⟨W, 0, none⟩), .nilFunc, .pointer none, .int .i32 0] 76)) ((Below.refl _ _).alloc (Nat.le_refl _) _)
  refine s1.addT (tyOf_of hb) (fun k hk => Nat.ne_of_lt (tyOf_lt (s.fT.ty k hk))) (fun o ho => ?_) s.sz
  simp only [World.cell?, hb]
  have : o = 0 ∨ o = 1 ∨ o = 2 ∨ o = 3 := by omega
  rcases this with rfl | rfl | rfl | rfl <;> rfl
theorem tm_inv {cap : Nat} {live : Nat → Bool} {L : Nat × Nat → List Nat} {qs : List (Nat × Nat)} {B a : Nat} (h : Inv C G cap D a live L qs) (ha : D.nt = a) : Inv C G cap (tmNew D B W) a live L qs := by
  refine ⟨h.hi.congr rfl rfl rfl (fun _ _ _ => rfl), h.kon, h.lv, h.nl, h.nc, ?_, h.a25, h.cv, fun i hi => ?_, h.ql, h.hd, h.ch, h.ij, h.le, h.ll, h.u21, h.u27, h.ar, h.fr, h.qa, h.cc⟩
  · show a ≤ D.nt + 1; omega
  · show (if i = D.nt then _ else D.tc i 3) = _
    rw [if_neg (by omega)]; exact h.tm i hi

theorem Held.store {cap T K n : Nat} {live kv : Nat → Bool} (H : Held w0 W C G cap T K n live kv w) (hK : w0.heap.size ≤ K) (i : Nat) (b : Bool) : Held w0 W C G cap T K n live (fun j => if j = i then b else kv j) (w.setCell ⟨K, i, none⟩ (.bool b)) := by
  obtain ⟨D, L, qs, s, inv, rT, rK⟩ := H
  refine ⟨D, L, qs, s.setX rK.1 (.inr rfl) hK, inv, rT.other rK.1 (by decide), (rK.set i (.bool b)).of (fun j _ => ?_)⟩
  by_cases e : j = i
  · rw [if_pos e, if_pos e]
  · rw [if_neg e, if_neg e]
theorem Held.kept {cap T K n : Nat} {live kv : Nat → Bool} (H : Held w0 W C G cap T K n live kv w) : (∀ i, i < n → w.cell? ⟨K, i, none⟩ = some (.bool (kv i))) ∧ ∀ i, w.frozen? ⟨K, i, none⟩ = false := by
  obtain ⟨D, L, qs, s, inv, rT, rK⟩ := H
  exact ⟨rK.2, tyOf_frozen rK.1⟩
theorem Held.alive {cap T K n : Nat} {live kv : Nat → Bool} (H : Held w0 W C G cap T K n live kv w) {i : Nat} (hi : i < n) (hl : live i = true) : ∃ p, w.cell? ⟨T, i, none⟩ = some (.pointer (some ⟨p, 0, none⟩)) ∧ w.cell? ⟨p, 3, none⟩ = some (.int .i32 ((i : Int) + 1)) := by
  obtain ⟨D, L, qs, s, inv, rT, rK⟩ := H
  refine ⟨D.tb i, rT.2 i hi, (s.fT.cell i 3 (Nat.lt_of_lt_of_le hi inv.nt) (by omega)).trans (congrArg some ?_)⟩
  rw [inv.tm i hi, hl]
  show Value.int .i32 ((i + 1 : Nat) : Int) = _
  congr 1
theorem Held.withdraw {cap T K n : Nat} {live kv : Nat → Bool} (H : Held w0 W C G cap T K n live kv w) {i : Nat} (hi : i < n) (hl : live i = true) :
    ∃ p, w.cell? ⟨T, i, none⟩ = some (.pointer (some ⟨p, 0, none⟩)) ∧ Calls Yba.prog 7 #[.pointer (some ⟨W, 0, none⟩), .pointer (some ⟨p, 0, none⟩)] w fun e w' => e = .returned (.tuple #[]) ∧
      Held w0 W C G cap T K n (upB live i false) kv w' ∧ w'.cell? ⟨T, i, none⟩ = some (.pointer (some ⟨p, 0, none⟩)) ∧ w'.cell? ⟨p, 3, none⟩ = some (.int .i32 0) ∧ w'.cell? ⟨W, 27, none⟩ = some (.int .u64 (cnt (upB live i false) n)) := by
  obtain ⟨D, L, qs, s, inv, rT, rK⟩ := H
  refine ⟨D.tb i, rT.2 i hi, (withdraw_call inv s hi hl).mono ?_⟩
  rintro e w' ⟨rfl, D', L', qs', s', etb, ent, inv'⟩
  have rT' := rT.congr (s'.fr T (.inl rT.1))
  have rK' := rK.congr (s'.fr K (.inr rK.1))
  refine ⟨rfl, ⟨D', L', qs', s'.rebase, inv', by rw [etb]; exact rT', rK'⟩, rT'.2 i hi, ?_, (s'.fW.cell 0 27 (by omega) (by omega)).trans (congrArg some inv'.u27)⟩
  have h := (s'.fT.cell i 3 (Nat.lt_of_lt_of_le hi inv'.nt) (by omega)).trans (congrArg some (inv'.tm i hi))
  rw [etb] at h
  rw [h]
  have e : upB live i false i = false := by simp [upB]
  rw [e]
  rfl
theorem Held.done {cap T K n : Nat} {live kv : Nat → Bool} (H : Held w0 W C G cap T K n live kv w) (hd : ∀ i, i < n → live i = false) : w.cell? ⟨W, 27, none⟩ = some (.int .u64 0) ∧ (∃ ad c, w.cell? ⟨W, 17, none⟩ = some (.slice ad 0 c)) ∧ w.cell? ⟨W, 21, none⟩ = some (.int .i32 0) ∧
    w.cell? ⟨W, 28, none⟩ = some (.int .u64 0) ∧ w.cell? ⟨W, 29, none⟩ = some (.int .u64 0) ∧ w.cell? ⟨W, 13, none⟩ = some (.int .i32 1) ∧ w.frozen? ⟨W, 13, none⟩ = false ∧ Below w0.heap.size w0 w ∧ w0.heap.size ≤ W := by
  obtain ⟨D, L, qs, s, inv, rT, rK⟩ := H
  have hc := cnt_zero hd
  have cW := fun o (ho : o < 41) => s.fW.cell 0 o (by omega) ho
  have hq := inv.empty hd
  obtain ⟨ad, c, hv⟩ : ∃ ad c, D.wc 0 17 = .slice ad 0 c := by
    have hl : D.qv.length = 0 := by rw [inv.hi.len, hq]; rfl
    rcases s.oQ.2 with ⟨h0, h1⟩ | ⟨g, cap, cur, h0, _⟩
    · exact ⟨none, 0, h0⟩
    · exact ⟨_, cap, by rw [h0, hl]⟩
  refine ⟨(cW 27 (by omega)).trans (congrArg some (by rw [inv.u27, hc]; rfl)), ⟨ad, c, (cW 17 (by omega)).trans (congrArg some hv)⟩, (cW 21 (by omega)).trans (congrArg some (by rw [inv.u21, hc]; rfl)),
    (cW 28 (by omega)).trans (congrArg some inv.kon.k28), (cW 29 (by omega)).trans (congrArg some inv.kon.k29), (cW 13 (by omega)).trans (congrArg some inv.kon.k13), tyOf_frozen (s.fW.ty 0 (by omega)) 13, s.hb, s.fW.le 0 (by omega)⟩

set_option maxHeartbeats 8000000 in
set_option maxRecDepth 100000 in
theorem unlink_walk (a0 a1 : Option Addr) (db doff kb koff n m cap0 cap1 : Nat) (du : Nat → Nat) (kp : Nat → Bool) (w : World) (hn : n ≤ 2500) (hm : m ≤ 2500)
    (h0 : Hid (n = 0 ∨ a0 = some ⟨db, doff, none⟩)) (h1 : Hid (m = 0 ∨ a1 = some ⟨kb, koff, none⟩)) (hdb : 0 < n → db < w.heap.size) (hkb : 0 < m → kb < w.heap.size) (hdu : ∀ i, du i < 4294967296)
    (cd : ∀ i, i < n → w.cell? ⟨db, doff + i, none⟩ = some (.int .u32 (du i))) (ck : ∀ i, i < m → w.cell? ⟨kb, koff + i, none⟩ = some (.bool (kp i))) :
    Calls Yba.prog 4 #[.slice a0 n cap0, .slice a1 m cap1] w fun e w' => e = .returned (.bool true) ∧ Below w.heap.size w w' := by
  obtain ⟨i74, x0, x1, x2, x3⟩ := info_parts Yba.info74
  obtain ⟨i4, y0, y1, y2, y3⟩ := info_parts Yba.info4
  have hnI : (n : Int) ≤ 2500 := by omega
  have hmI : (m : Int) ≤ 2500 := by omega
  go_enter_defers Yba.func4, Yba.ntmps4
  go_wp2_with fail
  refine (wheel_walk ⟨w.heap.size, 0, none⟩ _).mono ?_
  rintro e w1 ⟨B, g, cap, cur, rfl, hg, hgB, hgc, hgt, hB, hsz, hb⟩
  have c13 : w1.cell? ⟨B, 13, none⟩ = some (.int .i32 0) := cell_of hB 13
  have f13 := frozen_of hB 13
  have hbC : w1.heap[w.heap.size]? = some (.cells #[.int .i64 0, .int .i64 0] 25 (0, 0)) := (hb.block _ (by simp)).trans (MapKept.heap_alloc w _).1
  simp only [World.size_alloc] at hg
  have hb' : Below w.heap.size w w1 := ((Below.refl _ _).alloc (Nat.le_refl _) _).trans (hb.mono (by simp))
  have s1 := (wheel_st (C := w.heap.size) (Nat.le_refl _) (by omega) hbC hgc hgt hB hb').setW 13 (.int .i32 1) (by decide) (by decide) (by decide)
  clear hgc hgt hB hsz hb hbC hb' hg hgB
  go_wp2_with fail
  refine (lock_free Yba.muLib ⟨B, 13, none⟩ w1 c13 f13).mono ?_
  rintro e w' ⟨rfl, rfl⟩
  clear c13 f13
  have s2 : St w (w1.setCell ⟨B, 13, none⟩ (.int .i32 1)) B w.heap.size g (lockD w.heap.size B g cap) (w1.setCell ⟨B, 13, none⟩ (.int .i32 1)) := s1.rebase
  clear s1
  generalize w1.setCell ⟨B, 13, none⟩ (.int .i32 1) = w2 at *
  have inv0 := lock_inv w.heap.size B g cap
  have hnt0 : (lockD w.heap.size B g cap).nt = 0 := rfl
  generalize lockD w.heap.size B g cap = D0 at *
  go_wp2_with (at_make; refine wpList_make_full w2 rfl (.tmp 38) (.tmp 38) 81 rfl w.heap.size 74 i74 (.pointer none) 1 Yba.underlying81 x0 x1 x2 .i64 .i64 n n n rfl rfl rfl rfl ?b2 ?b3 ?b4 ?_)
  case b2 => rw [x3]; omega
  case b3 => unfold maxLen; omega
  case b4 => exact s2.sz
  intro w3 ho3 hg3
  have s3 := (s2.kept (kept_grown hg3)).rebase
  rw [toList_madeCells_one] at ho3
  have rT := RowP.made ho3
  have hT := s2.sz
  clear ho3 hg3 s2
  generalize w2.heap.size = T at *
  go_wp2_with fail
  go_loopw [9, 10] (fun x _ wr => ∃ i : Nat, i ≤ n ∧ x = .int .i64 i ∧ Armed w B w.heap.size g cap T n i wr) (fun x _ _ => 2500 - (intOf x).toNat)
  case atStart => exact ⟨0, by omega, rfl, ⟨D0, _, _, s3, inv0, hnt0, rT.of (fun j _ => by rw [if_neg (by omega)])⟩⟩
  case round =>
    clear s3 rT inv0 hnt0
    obtain ⟨i, hi, rfl, D, L, qs, s, inv, hnt, rT⟩ := hrel
    by_cases hlt : i < n
    · obtain rfl : a0 = some ⟨db, doff, none⟩ := h0.out.resolve_left (by omega)
      have cdi : ∀ o, (wr.alloc o).cell? ⟨db, doff + i, none⟩ = some (.int .u32 (du i)) := fun o => (World.cell?_of_block (Below.heap_alloc _ _ db (Nat.lt_of_lt_of_le (hdb (by omega)) s.sz))).trans ((s.hb.cell (hdb (by omega))).trans (cd i hlt))
      have hI : (i : Int) < (n : Int) := by omega
      have hI0 : (0 : Int) ≤ (i : Int) := by omega
      have hd1 := hdu i
      have hd2 : (du i : Int) < 4294967296 := by omega
      have hd3 : (0 : Int) ≤ (du i : Int) := by omega
      have etb : (tmNew D wr.heap.size B).tb i = wr.heap.size := by
        show (if i = D.nt then wr.heap.size else D.tb i) = _
        rw [if_pos hnt.symm]
      have AC := arm_call (n := du i) (tm_inv (B := wr.heap.size) (W := B) inv hnt) (tm_new s) (cnt_true i) (by omega) (by show i < D.nt + 1; omega) hd1
      rw [etb] at AC
      have HN : Hid (D.nt = i) := hnt
      have HE : Hid ((tmNew D wr.heap.size B).tb i = wr.heap.size) := etb
      clear etb hnt cd ck
      go_wp2_with fail
      refine AC.mono ?_
      rintro e w4 ⟨rfl, ⟨D', L', qs', s4, etb', ent', inv'⟩⟩
      clear AC cdi
      have rT4 := rT.congr (s4.fr T (.inl rT.1))
      have ct := rT4.2 i hlt
      have ft := tyOf_frozen rT4.1 i
      have s5 := s4.setX (o := i) (v := .pointer (some ⟨wr.heap.size, 0, none⟩)) rT4.1 (.inl rfl) hT
      have rT5 : RowP 74 T n (fun j => if j < i + 1 then .pointer (some ⟨D'.tb j, 0, none⟩) else .pointer none) (w4.setCell ⟨T, i, none⟩ (.pointer (some ⟨wr.heap.size, 0, none⟩))) := (rT4.set i (.pointer (some ⟨wr.heap.size, 0, none⟩))).of (fun j hj => by
        rw [etb']
        by_cases e : j = i
        · rw [if_pos e, if_pos (by omega), e, HE.out]
        · rw [if_neg e]
          by_cases e2 : j < i
          · rw [if_pos e2, if_pos (by omega)]
            show _ = Value.pointer (some ⟨if j = D.nt then wr.heap.size else D.tb j, 0, none⟩)
            rw [if_neg (by have := HN.out; omega)]
          · rw [if_neg e2, if_neg (by omega)])
      have inv2 : Inv w.heap.size g cap D' (i + 1) (fun _ => true) L' qs' := by
        have e : upB (fun _ => true) i true = (fun _ => true) := by funext j; simp [upB]
        rw [← e]; exact inv'
      have hnt2 : D'.nt = i + 1 := by rw [ent']; show D.nt + 1 = _; rw [HN.out]
      have A : Armed w B w.heap.size g cap T n (i + 1) (w4.setCell ⟨T, i, none⟩ (.pointer (some ⟨wr.heap.size, 0, none⟩))) := ⟨D', L', qs', s5, inv2, hnt2, rT5⟩
      clear s5 rT5 inv2 hnt2 etb' ent' inv'
      go_wp2_with fail
      go_roundw
      case rel => exact ⟨i + 1, by omega, by go_num, A⟩
      case measure => simp [intOf]; omega
    · have hin : n = i := by omega
      subst hin
      have c27 := (s.fW.cell 0 27 (by omega) (by omega)).trans (congrArg some inv.u27)
      rw [cnt_true] at c27
      clear hlt hi hnt
      go_wp2_with (at_make; refine wpList_make_full wr rfl (.tmp 69) (.tmp 69) 80 rfl w.heap.size 4 i4 (.bool false) 1 Yba.underlying80 y0 y1 y2 .i64 .i64 n n n rfl rfl rfl rfl ?b2 ?b3 ?b4 ?_)
      case b2 => rw [y3]; omega
      case b3 => unfold maxLen; omega
      case b4 => exact s.sz
      intro w5 ho5 hg5
      clear c27
      rw [toList_madeCells_one] at ho5
      have H5 : Held w B w.heap.size g cap T wr.heap.size n (fun _ => true) (fun _ => false) w5 :=
        ⟨D, L, qs, (s.kept (kept_grown hg5)).rebase, inv, (rT.congr ((kept_grown hg5).block T (tyOf_lt rT.1) (fun x => x))).of (fun j hj => by rw [if_pos hj]), RowP.made ho5⟩
      have hK := s.sz
      clear ho5 hg5 s inv rT
      generalize wr.heap.size = K at *
      obtain ⟨kq, hkq⟩ : ∃ kq : Nat → Bool, kq = fun j => decide (0 < m) && kp (j % m) := ⟨_, rfl⟩
      have HK : Hid (kq = fun j => decide (0 < m) && kp (j % m)) := hkq
      clear hkq x0 x1 x2 x3 y0 y1 y2 y3
      go_wp2_with fail
      go_loopw [12, 13, 14] (fun l x _ wr => ∃ (i c : Nat) (live kv : Nat → Bool), i ≤ n ∧ x = .int .i64 i ∧ l = .int .i64 c ∧ c = cnt live n ∧ (∀ j, j < n → live j = if j < i then kq j else true) ∧ (∀ j, j < n → kv j = if j < i then kq j else false) ∧ Held w B w.heap.size g cap T K n live kv wr) (fun _ x _ _ => 2500 - (intOf x).toNat)
      case atStart => exact ⟨0, n, _, _, by omega, rfl, rfl, by rw [cnt_true], fun j _ => by rw [if_neg (by omega)], fun j _ => by rw [if_neg (by omega)], H5⟩
      case round =>
        clear H5
        obtain ⟨i, c, live, kv, hi, rfl, rfl, hc, hlive, hkv, H⟩ := hrel
        have hcn := cnt_le live n
        by_cases hlt : i < n
        · have hI : (i : Int) < (n : Int) := by omega
          have hI0 : (0 : Int) ≤ (i : Int) := by omega
          have hbel : ∀ k, k < w.heap.size → wr.heap[k]? = w.heap[k]? := by
            obtain ⟨D, L, qs, s, _⟩ := H
            exact fun k hk => s.hb.block k hk
          have hli : live i = true := by rw [hlive i hlt, if_neg (by omega)]
          obtain ⟨ckK, fkK⟩ := H.kept
          have cK := ckK i hlt
          have fK := fkK i
          clear ckK fkK
          have keepTail : ∀ b : Bool, kq i = b → (∀ j, j < n → (fun j => if j = i then b else kv j) j = if j < i + 1 then kq j else false) := fun b hb j hj => by
            show (if j = i then b else kv j) = _
            by_cases e : j = i
            · rw [if_pos e, if_pos (by omega), e, hb]
            · rw [if_neg e, hkv j hj]
              by_cases e2 : j < i
              · rw [if_pos e2, if_pos (by omega)]
              · rw [if_neg e2, if_neg (by omega)]
          have liveT : kq i = true → ∀ j, j < n → live j = if j < i + 1 then kq j else true := fun hb j hj => by
            rw [hlive j hj]
            by_cases e : j = i
            · rw [if_neg (by omega), if_pos (by omega), e, hb]
            · by_cases e2 : j < i
              · rw [if_pos e2, if_pos (by omega)]
              · rw [if_neg e2, if_neg (by omega)]
          have liveF : kq i = false → ∀ j, j < n → upB live i false j = if j < i + 1 then kq j else true := fun hb j hj => by
            unfold upB
            by_cases e : j = i
            · rw [if_pos e, if_pos (by omega), e, hb]
            · rw [if_neg e, hlive j hj]
              by_cases e2 : j < i
              · rw [if_pos e2, if_pos (by omega)]
              · rw [if_neg e2, if_neg (by omega)]
          have HT := H.store hK i true
          have HF := H.store hK i false
          obtain ⟨p, cp, WC⟩ := HF.withdraw hlt hli
          have hc1 := cnt_off hlt hli
          obtain ⟨c', rfl⟩ : ∃ c', c = c' + 1 := ⟨c - 1, by omega⟩
          have hcc : cnt (upB live i false) n = c' := by omega
          rw [hcc] at WC
          have hcb : (c' : Int) < 2500 := by omega
          have hc2 : cnt live n = c' + 1 := hc.symm
          by_cases m0 : m = 0
          · have hb : kq i = false := by rw [HK.out]; simp [m0]
            have hm0 : (m : Int) ≤ 0 := by omega
            clear m0
            have kt := keepTail _ hb
            have lf := liveF hb
            clear hb keepTail liveT liveF hlive hkv hc hc1 hc2 HT HF cd ck HK
            go_wp2_with fail
            refine WC.mono ?_
            rintro e w6 ⟨rfl, H6, cT, c3, c27⟩
            clear WC cp
            go_wp2_with fail
            go_roundw
            case rel => exact ⟨i + 1, c', _, _, by omega, by go_num, by go_num, hcc.symm, lf, kt, H6⟩
            case measure => simp [intOf]; omega
          · obtain rfl : a1 = some ⟨kb, koff, none⟩ := h1.out.resolve_left m0
            have hmp : (0 : Int) < (m : Int) := by omega
            have hmN : i % m < m := Nat.mod_lt _ (by omega)
            have hmI2 : ((i : Int) % (m : Int)) < (m : Int) := by omega
            have hmI3 : (0 : Int) ≤ ((i : Int) % (m : Int)) := by omega
            have cki : wr.cell? ⟨kb, koff + i % m, none⟩ = some (.bool (kp (i % m))) := (World.cell?_of_block (hbel kb (hkb (by omega)))).trans (ck _ hmN)
            have hb0 : kq i = kp (i % m) := by
              rw [HK.out]
              show (decide (0 < m) && kp (i % m)) = _
              rw [decide_eq_true (by omega : 0 < m)]; rfl
            cases hv : kp (i % m) with
            | false =>
              have hb := hb0.trans hv
              rw [hv] at cki
              have kt := keepTail _ hb
              have lf := liveF hb
              clear hb hb0 hv keepTail liveT liveF hlive hkv hc hc1 hc2 HT HF cd ck HK m0 hbel
              go_wp2_with fail
              refine WC.mono ?_
              rintro e w6 ⟨rfl, H6, cT, c3, c27⟩
              clear WC cp cki
              go_wp2_with fail
              go_roundw
              case rel => exact ⟨i + 1, c', _, _, by omega, by go_num, by go_num, hcc.symm, lf, kt, H6⟩
              case measure => simp [intOf]; omega
            | true =>
              have hb := hb0.trans hv
              rw [hv] at cki
              have kt := keepTail _ hb
              have lf := liveT hb
              have hcs := hc2.symm
              clear hb hb0 hv keepTail liveT liveF hlive hkv hc hc1 hc2 HF cd ck HK m0 hbel WC hcc cp
              have HC : Hid (c' + 1 = cnt live n) := hcs
              clear hcs
              go_wp2_with fail
              go_roundw
              case rel => exact ⟨i + 1, c' + 1, _, _, by omega, by go_num, by go_num, HC.out, lf, kt, HT⟩
              case measure => simp [intOf]; omega
        · have hin : n = i := by omega
          subst hin
          have hkl : ∀ j, j < n → live j = kv j := fun j hj => by rw [hlive j hj, hkv j hj, if_pos hj, if_pos hj]
          clear hlive hkv hlt hi HK hkb hdb cd ck hdu h0 h1
          have HC : Hid (c = cnt live n) := hc
          clear hc
          have hcb : (c : Int) ≤ 2500 := by have := HC.out; omega
          obtain ⟨wz, hwz⟩ : ∃ wz, wz = wr := ⟨_, rfl⟩
          subst hwz
          go_wp2_with fail
          go_loopw [15] (fun x wr => ∃ i : Nat, i ≤ n ∧ x = .int .i64 i ∧ wr = wz) (fun x _ => 2500 - (intOf x).toNat)
          case atStart => exact ⟨0, by omega, rfl, rfl⟩
          case round =>
            obtain ⟨i, hi, rfl, hw⟩ := hrel
            subst hw
            by_cases hlt : i < n
            · have hI : (i : Int) < (n : Int) := by omega
              have hI0 : (0 : Int) ≤ (i : Int) := by omega
              have cK := H.kept.1 i hlt
              cases hv : kv i with
              | false =>
                rw [hv] at cK
                clear hv hkl
                go_wp2_with fail
                go_roundw
                case rel => exact ⟨i + 1, by omega, by go_num, by simp⟩
                case measure => simp [intOf]; omega
              | true =>
                obtain ⟨p, cp, c3⟩ := H.alive hlt ((hkl i hlt).trans hv)
                rw [hv] at cK
                have hne : (((i : Int) + 1) == 0) = false := by simp; omega
                clear hv hkl
                go_wp2_with fail
                go_roundw
                case rel => exact ⟨i + 1, by omega, by go_num, by simp⟩
                case measure => simp [intOf]; omega
            · have hin : n = i := by omega
              subst hin
              clear hlt hi
              go_wp2_with fail
              go_loopw [12, 16] (fun l x wr => ∃ (i c : Nat) (live : Nat → Bool), i ≤ n ∧ x = .int .i64 i ∧ l = .int .i64 c ∧ c = cnt live n ∧ (∀ j, j < n → live j = if j < i then false else kv j) ∧ Held w B w.heap.size g cap T K n live kv wr) (fun _ x _ => 2500 - (intOf x).toNat)
              case atStart => exact ⟨0, c, live, by omega, rfl, rfl, HC.out, fun j hj => by rw [if_neg (by omega)]; exact hkl j hj, H⟩
              case round =>
                clear H hkl HC hcb hcn
                obtain ⟨i, c, live, hi, rfl, rfl, hc, hlive, H⟩ := hrel
                have hcn := cnt_le live n
                by_cases hlt : i < n
                · have hI : (i : Int) < (n : Int) := by omega
                  have hI0 : (0 : Int) ≤ (i : Int) := by omega
                  have cK := H.kept.1 i hlt
                  cases hv : kv i with
                  | false =>
                    rw [hv] at cK
                    have lf : ∀ j, j < n → live j = if j < i + 1 then false else kv j := fun j hj => by
                      rw [hlive j hj]
                      by_cases e : j = i
                      · rw [if_neg (by omega), if_pos (by omega), e, hv]
                      · by_cases e2 : j < i
                        · rw [if_pos e2, if_pos (by omega)]
                        · rw [if_neg e2, if_neg (by omega)]
                    have HC : Hid (c = cnt live n) := hc
                    clear hv hlive hc
                    go_wp2_with fail
                    go_roundw
                    case rel => exact ⟨i + 1, c, _, by omega, by go_num, by go_num, HC.out, lf, H⟩
                    case measure => simp [intOf]; omega
                  | true =>
                    have hli : live i = true := by rw [hlive i hlt, if_neg (by omega), hv]
                    have lf : ∀ j, j < n → upB live i false j = if j < i + 1 then false else kv j := fun j hj => by
                      unfold upB
                      by_cases e : j = i
                      · rw [if_pos e, if_pos (by omega)]
                      · rw [if_neg e, hlive j hj]
                        by_cases e2 : j < i
                        · rw [if_pos e2, if_pos (by omega)]
                        · rw [if_neg e2, if_neg (by omega)]
                    obtain ⟨p, cp, WC⟩ := H.withdraw hlt hli
                    have hc1 := cnt_off hlt hli
                    obtain ⟨c', rfl⟩ : ∃ c', c = c' + 1 := ⟨c - 1, by omega⟩
                    have hcc : cnt (upB live i false) n = c' := by omega
                    rw [hcc] at WC
                    have hcb : (c' : Int) < 2500 := by omega
                    rw [hv] at cK
                    clear hv hlive hc hc1 H hli
                    go_wp2_with fail
                    refine WC.mono ?_
                    rintro e w6 ⟨rfl, H6, cT, c3, c27⟩
                    clear WC cp cK
                    go_wp2_with fail
                    go_roundw
                    case rel => exact ⟨i + 1, c', _, by omega, by go_num, by go_num, hcc.symm, lf, H6⟩
                    case measure => simp [intOf]; omega
                · have hd : ∀ j, j < n → live j = false := fun j hj => by rw [hlive j hj, if_pos (by omega)]
                  obtain ⟨c27, ⟨ad, qc, c17⟩, c21, c28, c29, c13, f13, hbel, hWle⟩ := H.done hd
                  have hc0 : c = 0 := hc.trans (cnt_zero hd)
                  subst hc0
                  have hin : n = i := by omega
                  subst hin
                  clear hc hlive hd hi hlt hcn H
                  go_wp2_with fail
                  refine leaves_cons (f := 8) (args := #[.pointer (some ⟨B, 13, none⟩)]) (by simp) (by simp [go_sem]) ?_
                  refine (unlock_deferred Yba.muLib ⟨B, 13, none⟩ .returning _ c13 f13).mono ?_
                  rintro e u' w'' ⟨rfl, rfl, rfl⟩
                  exact ⟨_, results_tmp rfl _ _ _, rfl, hbel.setCell hWle _⟩

set_option maxHeartbeats 2000000 in
set_option maxRecDepth 100000 in
theorem unlink_long (a0 a1 : Option Addr) (n m cap0 cap1 : Nat) (w : World) (hn : 2500 < n ∨ 2500 < m) :
    Calls Yba.prog 4 #[.slice a0 n cap0, .slice a1 m cap1] w fun e w' => e = .returned (.bool true) ∧ Below w.heap.size w w' := by
  by_cases h : 2500 < n
  · have hI : (2500 : Int) < (n : Int) := by omega
    go_enter_defers Yba.func4, Yba.ntmps4
    go_wp2_with fail
    exact ⟨_, results_tmp rfl _ _ _, rfl, Below.refl _ _⟩
  · have hI : (2500 : Int) < (m : Int) := by omega
    have hJ : (n : Int) ≤ 2500 := by omega
    go_enter_defers Yba.func4, Yba.ntmps4
    go_wp2_with fail
    exact ⟨_, results_tmp rfl _ _ _, rfl, Below.refl _ _⟩
end Go.Proofs.Ybulkckyc
