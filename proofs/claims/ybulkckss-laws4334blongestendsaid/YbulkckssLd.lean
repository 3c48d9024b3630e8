import Derived.Test.YbulkckssSt10
import Derived.WalkSpells
namespace Go.Proofs.Ybulkckss
open Go.RowKit Go.Lib

set_option maxHeartbeats 1000000 in
set_option maxRecDepth 100000 in
theorem map4_call {raw : Nat} (hr : raw < 256) (w : World) : Calls Yba.prog 10 #[.int .u8 raw] w fun e w' => ∃ b : Nat, b < 256 ∧ e = .returned (.int .u8 b) ∧ w' = w := by
  have hrI : (raw : Int) < 256 := by omega
  go_enter Yba.func10, Yba.ntmps10
  go_wp2_with fail
  · go_ret
    exact ⟨97, by decide, rfl, rfl⟩
  · go_ret
    exact ⟨98, by decide, rfl, rfl⟩
  · go_ret
    exact ⟨99, by decide, rfl, rfl⟩
  · go_ret
    exact ⟨122, by decide, rfl, rfl⟩

/-- the texts that were made, as the finder takes them -/
theorem txv_of {w0 w : World} {m : Nat} {tb : Nat → ByteArray} {v : Value} (hm : m ≤ 256) (ht : Txt m tb) (ho : w.ownsRow w0.heap.size 9 1 v m (strs m tb)) : ∃ ad XB cap, v = .slice ad m cap ∧ TXv ad XB m tb w ∧ (0 < m → tyOf w XB = some 9) ∧ (0 < m → w0.heap.size ≤ XB) := by
  by_cases m0 : 0 < m
  · obtain ⟨g, cap, rfl, tg, hle, _, _, hcell⟩ := row_at ho m0
    refine ⟨_, g, cap, rfl, ⟨fun _ => ⟨rfl, tyOf_lt tg⟩, fun i hi => (hcell i hi).trans ?_, ht.sz, hm⟩, fun _ => tg, fun _ => hle⟩
    simp [strs, List.getElem?_range hi]
  · obtain ⟨ad, cap, rfl⟩ := qslice ho
    exact ⟨ad, 0, cap, rfl, ⟨fun h => absurd h m0, fun i hi => by omega, fun i hi => by omega, hm⟩, fun h => absurd h m0, fun h => absurd h m0⟩
/-- a variable of its own for the finder -/
theorem holds_new {Z : Array Value} (hZ : Z.size = 517) {cs : List Value} (hl : cs.length = 517) (w : World) : (w.alloc (.cells Z 36)).there w.heap.size 0 517 ∧ Holds w.heap.size cs ((w.alloc (.cells Z 36)).setCells w.heap.size 0 cs) ∧ Below w.heap.size w ((w.alloc (.cells Z 36)).setCells w.heap.size 0 cs) := by
  have e := (MapKept.heap_alloc w (.cells Z 36)).1
  have ht : (w.alloc (.cells Z 36)).there w.heap.size 0 517 := fun j hj => by
    constructor
    · simp only [World.cell?, e, Nat.zero_add]
      rw [Array.getElem?_eq_getElem (by rw [hZ]; exact hj)]; rfl
    · exact tyOf_frozen (tyOf_of e) _
  refine ⟨ht, ⟨ty_setCells _ _ _ (tyOf_of e), World.rangeAt_setCells_same _ _ _ _ (by rw [hl]; exact ht)⟩, ?_⟩
  have b1 : Below w.heap.size w (w.alloc (.cells Z 36)) := (Below.refl _ _).alloc (Nat.le_refl _) _
  exact (kept_setCells w.heap.size cs 0 (w.alloc (.cells Z 36))).below b1 b1.size (fun g x => by omega)
section
variable {tx : Nat → ByteArray} {n SB EB N M ke : Nat} {st : Nat → Nat → Int} {ed : Nat → Nat × Nat} {sta ef et : Nat → Nat} {wd : Nat → List Nat} {cl : Nat → Nat} {nc : Nat} {vD : Value} {base : Nat} {w w' : World}
theorem FO.new (h : FO tx n SB EB N M ke st ed sta ef et wd cl nc vD base w) (b : Below w.heap.size w w') : FO tx n SB EB N M ke st ed sta ef et wd cl nc vD base w' := by
  have k := Kept.of_below b
  refine ⟨h.se.kept k (fun x => x) (fun x => x), h.T, h.E, h.hst, h.hLP, h.bld, h.lcl, h.lnc, ?_, h.le⟩
  rcases h.dn with h0 | ⟨DB, g, h0, h1, h2, h3, h4⟩
  · exact .inl h0
  · exact .inr ⟨DB, g, h0, h1, h2, h3.kept k (fun x => x), h4⟩
theorem Holds.new {F : Nat} {cs : List Value} (h : Holds F cs w) (b : Below w.heap.size w w') : Holds F cs w' :=
  ⟨(tyOf_congr (b.block F (tyOf_lt h.1))).trans h.1, fun j v hj => (b.cell (tyOf_lt h.1)).trans (h.2 j v hj)⟩
end
theorem and_one32 {x : Nat} (hx : x < 2147483648) : bits BinOp.and IntKind.i32 (x : Int) 1 = ((x % 2 : Nat) : Int) := by
  have e1 : (BitVec.ofInt 32 (x : Int)).toNat = x := by
    rw [BitVec.ofInt_natCast, BitVec.toNat_ofNat]; omega
  have e2 : (BitVec.ofInt 32 1).toNat = 1 := by decide
  show IntKind.i32.wrap (((BitVec.ofInt 32 (x : Int)) &&& (BitVec.ofInt 32 1)).toNat : Nat) = _
  rw [BitVec.toNat_and, e1, e2, Nat.and_one_is_mod, IntKind.wrap_i32]
  omega
/-- a dense entry taken apart -/
theorem ent_parts {st : Nat → Nat → Int} {nc t : Nat} (h : t * nc ≤ 1048576) : ent st nc t / 2 = ((t * nc : Nat) : Int) ∧ bits BinOp.and IntKind.i32 (ent st nc t) 1 = (if 0 ≤ st t 4 then 1 else 0) := by
  unfold ent
  by_cases c : 0 ≤ st t 4
  · rw [if_pos c]
    refine ⟨by omega, ?_⟩
    have := and_one32 (x := 2 * (t * nc) + 1) (by omega)
    rw [show (2 * (t * nc) + 1) % 2 = 1 from by omega] at this
    rw [show 2 * ((t * nc : Nat) : Int) + 1 = ((2 * (t * nc) + 1 : Nat) : Int) from by omega]
    exact this
  · rw [if_neg c]
    refine ⟨by omega, ?_⟩
    have := and_one32 (x := 2 * (t * nc)) (by omega)
    rw [show (2 * (t * nc)) % 2 = 0 from by omega] at this
    rw [show 2 * ((t * nc : Nat) : Int) + 0 = ((2 * (t * nc) : Nat) : Int) from by omega]
    exact this

set_option maxHeartbeats 4000000 in
set_option maxRecDepth 100000 in
/-- the law of the dense table -/
theorem dense_law (a0 : Option Addr) (rb roff n0 cap0 : Nat) (rs : Nat → ByteArray) (fr raw : Nat) (w : World) (h0 : Hid (n0 = 0 ∨ a0 = some ⟨rb, roff, none⟩)) (hrb : 0 < n0 → rb < w.heap.size)
    (hc : ∀ i, i < n0 → w.cell? ⟨rb, roff + i, none⟩ = some (.string (rs i))) (hfr : fr < 65536) (hraw : raw < 256) :
    Calls Yba.prog 6 #[.slice a0 n0 cap0, .int .u16 fr, .int .u8 raw] w fun e w' => e = .returned (.bool true) ∧ Below w.heap.size w w' := by
  by_cases hbig : 256 < n0
  · have hI : (256 : Int) < (n0 : Int) := by omega
    go_enter Yba.func6, Yba.ntmps6
    go_wp2_with fail
    go_ret
    exact ⟨rfl, Below.refl _ _⟩
  have hnI : (n0 : Int) ≤ 256 := by omega
  have HC : Aside _ := hc
  have HRB : Aside _ := hrb
  have HFR : Hid (fr < 65536) := hfr
  have HRW : Hid (raw < 256) := hraw
  clear hc hrb hfr hraw
  go_enter Yba.func6, Yba.ntmps6
  go_wp2_with fail
  go_loopw [8, 20] (fun _ x wr => ∃ i : Nat, i ≤ n0 ∧ x = .int .i64 i ∧ Below w.heap.size w wr ∧ ∀ j, j < i → (rs j).size ≤ 256) (fun _ x _ => 256 - (intOf x).toNat)
  case atStart => exact ⟨0, by omega, rfl, Below.refl _ _, fun j hj => by omega⟩
  case round =>
    obtain ⟨i, hi, rfl, hb, hsz⟩ := hrel
    by_cases hlt : i < n0
    · obtain rfl : a0 = some ⟨rb, roff, none⟩ := h0.out.resolve_left (by omega)
      have hI : (i : Int) < (n0 : Int) := by omega
      have hI0 : (0 : Int) ≤ (i : Int) := by omega
      have cr : wr.cell? ⟨rb, roff + i, none⟩ = some (.string (rs i)) := (hb.cell (HRB.out (by omega))).trans (HC.out i hlt)
      by_cases hz : 256 < (rs i).size
      · have hzI : (256 : Int) < ((rs i).size : Int) := by omega
        go_wp2_with fail
        go_ret
        exact ⟨rfl, hb⟩
      · have hzI : ((rs i).size : Int) ≤ 256 := by omega
        have hsz2 : ∀ j, j < i + 1 → (rs j).size ≤ 256 := fun j hj => by
          by_cases e : j = i
          · rw [e]; omega
          · exact hsz j (by omega)
        have HS : Aside _ := hsz2
        clear hsz hsz2
        go_wp2_with fail
        go_roundw
        case rel => exact ⟨i + 1, by omega, by go_num, hb, HS.out⟩
        case measure => simp [intOf]; omega
    · have e : i = n0 := by omega
      subst e
      have C8 := build_call a0 rb roff i cap0 rs wr (by omega) h0 (fun h => Nat.lt_of_lt_of_le (HRB.out h) hb.size) (fun j hj => (hb.cell (HRB.out (by omega))).trans (HC.out j hj)) hsz
      have HS : Aside _ := hsz
      clear hsz
      go_wp2_with fail
      refine C8.mono ?_
      rintro e w1 ⟨m, tb, v, rfl, hm, htxt, hown, hb1⟩
      obtain ⟨ad, XB, cap, rfl, htx, hty, _⟩ := txv_of hm htxt hown
      have C9 := finder_call (cap := cap) htx hty
      have hbB : Below w.heap.size w w1 := hb.trans ⟨hb1.os, hb1.tape, hb1.output, hb1.size, fun k hk => hb1.block k (Nat.lt_of_lt_of_le hk hb.size)⟩
      clear C8 hown
      go_wp2_with fail
      refine C9.mono ?_
      rintro e w2 ⟨tv, SB, EB, N, M, ks, ke, st, ed, sta, ef, et, wd, cl, nc, vD, rfl, hone, hfo, hb2⟩
      have z36 := zero36
      have s36 := size36
      generalize Z36 = Z at z36 s36
      obtain ⟨hth, hho, hb3⟩ := holds_new s36 (fcs_len tv (.slice (some ⟨SB, 0, none⟩) N ks) (.slice (some ⟨EB, 0, none⟩) M ke) vD sta cl nc) w2
      have hfo3 := hfo.new hb3
      have hfm := hho.fm hfo3.se
      have hcD := hho.cD
      have hcN := hho.cN
      have hcC := fun b hb => hho.cC (b := b) hb
      have hl := fcs_len tv (.slice (some ⟨SB, 0, none⟩) N ks) (.slice (some ⟨EB, 0, none⟩) M ke) vD sta cl nc
      have h12 := hbB.trans ⟨hb2.os, hb2.tape, hb2.output, hb2.size, fun k hk => hb2.block k (Nat.lt_of_lt_of_le hk hbB.size)⟩
      have hbF := h12.trans ⟨hb3.os, hb3.tape, hb3.output, hb3.size, fun k hk => hb3.block k (Nat.lt_of_lt_of_le hk h12.size)⟩
      clear hho hb3 hb2 hfo
      generalize fcs tv (.slice (some ⟨SB, 0, none⟩) N ks) (.slice (some ⟨EB, 0, none⟩) M ke) vD sta cl nc = cs at *
      have e517 : cs.toArray.size = 517 := by rw [List.size_toArray]; exact hl
      have hi2 : (Yba.prog.info? 36).map (·.size) = some cs.toArray.size := by rw [e517]; exact size36b
      have ht2 : (w2.alloc (.cells Z 36)).there w2.heap.size 0 cs.toArray.size := by rw [e517]; exact hth
      have h2 := all_oneCell_toArray hone
      clear C9 hone hth hb1 hbB hb htx e517 hl h12
      rcases hfo3.dn with hv0 | ⟨DB, g, hv0, hK, hDB, hR, hok⟩
      · rw [hv0] at hcD
        have en := fun w => Lib.run_eql_slice_nil (P := Yba.prog) w 33 21 none 0 0 0 0 Yba.underlying33
        clear hv0 hfo3 hcC
        go_wp2_with (first | (refine wpList_store_mid rfl 36 (.tmp 10) (.tmp 31) rfl w2.heap.size 0 cs.toArray rfl rfl ht2 hi2 h2 ?_))
        go_ret
        exact ⟨rfl, hbF⟩
      · rw [hv0] at hcD
        have hF1 := hfm.cS
        have en := fun w => Lib.run_eql_slice_nil (P := Yba.prog) w 33 21 (some ⟨DB, 0, none⟩) (N * nc) (N * nc) 0 0 Yba.underlying33
        have hN0 : 0 < N := hfo3.T.pos
        have hN0b : ((N : Int) == 0) = false := by simp; omega
        have HFO : Aside _ := hfo3
        clear hv0 hfo3
        go_wp2_with (first | (refine wpList_store_mid rfl 36 (.tmp 10) (.tmp 31) rfl w2.heap.size 0 cs.toArray rfl rfl ht2 hi2 h2 ?_))
        refine (map4_call HRW.out _).mono ?_
        rintro e w3 ⟨b, hb, rfl, rfl⟩
        generalize (w2.alloc (Obj.cells Z 36)).setCells w2.heap.size 0 cs = W at *
        clear ht2 hi2 h2 z36 s36
        obtain ⟨s, hs⟩ : ∃ s, fr % N = s := ⟨_, rfl⟩
        have hN6 := hfm.N6
        have sN : s < N := by rw [← hs]; exact Nat.mod_lt _ hN0
        have wf : IntKind.i64.wrap (fr : Int) = (fr : Int) := by have := HFR.out; rw [IntKind.wrap_i64]; omega
        have tm : (fr : Int).tmod (N : Int) = (s : Int) := by rw [← hs]; exact (Int.ofNat_tmod fr N).symm
        have ws : IntKind.i32.wrap (s : Int) = (s : Int) := by rw [IntKind.wrap_i32]; omega
        have C11 := next_call HFO.out.T HFO.out.E hfm HFO.out.hst (s0 := s) (b := b) sN hb (fun x x0 xN _ => HFO.out.hLP x x0 xN)
        clear hs
        go_wp2_with fail
        refine C11.mono ?_
        rintro e w4 ⟨r, rfl, hls, hb4⟩
        have hrN : r < N := hls.1
        obtain ⟨t, hlt2, het⟩ := hok s sN b hb
        have etr : t = r := LS.uniq HFO.out.T hlt2 hls
        rw [etr] at het
        obtain ⟨so, hso⟩ : ∃ so, s * nc = so := ⟨_, rfl⟩
        obtain ⟨k0, hk0⟩ : ∃ k0, so + cl b = k0 := ⟨_, rfl⟩
        obtain ⟨P, hP⟩ : ∃ P, r * nc = P := ⟨_, rfl⟩
        obtain ⟨K, hKe⟩ : ∃ K, N * nc = K := ⟨_, rfl⟩
        have hclb := HFO.out.lcl b
        have hkK : k0 < K := by rw [← hk0, ← hso, ← hKe]; exact pos_lt sN hclb
        have hPK : P ≤ 1048576 := by
          rw [← hP]
          exact Nat.le_trans (Nat.mul_le_mul_right _ (by omega)) hK
        have hlnc := HFO.out.lnc
        have e12 := ent_parts (st := st) (nc := nc) (t := r) (by rw [hP]; exact hPK)
        have hfm4 := hfm.new hb4
        have cR := (hb4.cell (tyOf_lt hR.1)).trans (hR.2 k0 (by rw [hKe]; exact hkK))
        rw [← hk0, ← hso, het, hso, hk0] at cR
        have q1 := (hb4.cell (tyOf_lt hfm.tF)).trans hcD
        have q2 := (hb4.cell (tyOf_lt hfm.tF)).trans hcN
        have q3 := (hb4.cell (tyOf_lt hfm.tF)).trans (hcC b hb)
        have q4 := hfm4.cS
        have q5 := hfm4.cs r 4 hrN (by omega)
        have hbE : Below w.heap.size w w4 := hbF.trans ⟨hb4.os, hb4.tape, hb4.output, hb4.size, fun k hk => hb4.block k (Nat.lt_of_lt_of_le hk hbF.size)⟩
        rw [hKe] at q1
        rw [hP] at e12
        generalize ent st nc r = EE at *
        obtain ⟨e1, e2⟩ := e12
        have v1 : IntKind.i64.wrap (s : Int) = (s : Int) := by rw [IntKind.wrap_i64]; omega
        have v2 : IntKind.i64.wrap ((s : Int) * (nc : Int)) = (so : Int) := by
          have hle : so ≤ 1048576 := by omega
          rw [← hso, IntKind.wrap_i64]; rw [← hso] at hle; push_cast at hle ⊢; omega
        have v3 : IntKind.i64.wrap (cl b : Int) = (cl b : Int) := by rw [IntKind.wrap_i64]; omega
        have v4 : IntKind.i64.wrap ((so : Int) + (cl b : Int)) = (k0 : Int) := by rw [IntKind.wrap_i64]; omega
        have v5 : IntKind.i32.wrap (nc : Int) = (nc : Int) := by rw [IntKind.wrap_i32]; omega
        have v6 : IntKind.i32.wrap ((r : Int) * (nc : Int)) = (P : Int) := by rw [← hP] at hPK ⊢; rw [IntKind.wrap_i32]; push_cast at hPK ⊢; omega
        have v7 : IntKind.i64.wrap (r : Int) = (r : Int) := by rw [IntKind.wrap_i64]; omega
        have r0 : (0 : Int) ≤ (r : Int) := by omega
        have r1 : (r : Int) < (N : Int) := by omega
        have k1 : (k0 : Int) < (K : Int) := by omega
        have k2 : (0 : Int) ≤ (k0 : Int) := by omega
        have b1 : (b : Int) < 256 := by omega
        clear C11 hok hls hlt2 het etr hso hk0 hP hKe hfm4 hR hcD hcN hcC hF1 hbF hfm hb4 HFO hK hPK hkK hclb hlnc
        go_upto_region 18 with fail
        go_region_held3 (fun w' => w'.cell? ⟨w2.heap.size, 259, none⟩ = some (.slice (some ⟨DB, 0, none⟩) K K) ∧ w'.cell? ⟨w2.heap.size, 516, none⟩ = some (.int .i64 nc) ∧ w'.cell? ⟨w2.heap.size, 260 + b, none⟩ = some (.int .u16 (cl b)) ∧ w'.cell? ⟨DB, k0, none⟩ = some (.int .i32 EE)) (go_keep) (fail)
        have hbE2 := hbE.drew
        by_cases c4 : 0 ≤ st r 4
        · rw [if_pos c4] at e2
          go_wp2_with fail
          go_ret
          exact ⟨rfl, hbE2⟩
        · rw [if_neg c4] at e2
          have c5 : st r 4 < 0 := by omega
          go_wp2_with fail
          go_ret
          exact ⟨rfl, hbE2⟩
end Go.Proofs.Ybulkckss
