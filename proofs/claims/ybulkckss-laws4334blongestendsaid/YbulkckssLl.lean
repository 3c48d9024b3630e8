import Derived.Test.YbulkckssLd
import Derived.Test.YbulkckssLs
import Derived.Test.YbulkckssLg
namespace Go.Proofs.Ybulkckss
open Go.RowKit Go.Lib

/-- the bytes of a list of small numbers -/
def ub (v : List Nat) : List UInt8 := v.map UInt8.ofNat
theorem ofNat_toNat {x : Nat} (h : x < 256) : (UInt8.ofNat x).toNat = x := by
  simp [UInt8.toNat_ofNat']
  omega
theorem bw_ub {v : List Nat} (h : ∀ x, x ∈ v → x < 256) : bw (ub v) = v := by
  unfold bw ub
  rw [List.map_map]
  conv => rhs; rw [← List.map_id v]
  refine List.map_congr_left fun x hx => ?_
  have := h x hx
  exact ofNat_toNat this
theorem bw_drop (l : List UInt8) (k : Nat) : bw (l.drop k) = (bw l).drop k := by simp [bw, List.map_drop]
theorem bw_len (l : List UInt8) : (bw l).length = l.length := by simp [bw]
/-- the longest end that begins a text, as a state -/
theorem longest_state {N n m k : Nat} {wd : Nat → List Nat} {e : Nat → Ed} {tx : Nat → ByteArray} {vb : List UInt8} (B : Bld (fun p => p = [] ∨ ∃ j, j < m ∧ p <+: bl (tx j)) N wd e) (hn : vb.length = n) (hk : k ≤ n) (h1 : k = 0 ∨ ∃ j, j < m ∧ Fits vb n tx j k) (h2 : ∀ k', k < k' → k' ≤ n → ∀ j, j < m → ¬ Fits vb n tx j k') :
    ∃ t, t < N ∧ wd t = (bw vb).drop (n - k) ∧ LS N wd (bw vb) t := by
  obtain ⟨t, ht, et⟩ : ∃ t, t < N ∧ wd t = bw (vb.drop (n - k)) := by
    refine B.all _ ?_
    rcases h1 with h0 | ⟨j, hj, _, hf⟩
    · left
      rw [h0]
      exact List.drop_of_length_le (by omega)
    · right
      refine ⟨j, hj, ?_⟩
      rw [← hf]
      exact List.take_prefix _ _
  rw [bw_drop] at et
  refine ⟨t, ht, et, ht, by rw [et]; exact List.drop_suffix _ _, fun x hx hs => ?_⟩
  rw [et, List.length_drop, bw_len, hn]
  obtain ⟨p, hp, ep⟩ := B.inn x hx
  rw [ep] at hs ⊢
  rw [bw_len]
  refine Nat.le_of_not_lt fun hgt => ?_
  have hpl := hs.length_le
  rw [bw_len, bw_len, hn] at hpl
  have e1 : p = vb.drop (n - p.length) := by
    have := List.suffix_iff_eq_drop.1 hs
    rw [bw_len, bw_len, hn, ← bw_drop] at this
    exact bw_inj this
  rcases hp with h0 | ⟨j, hj, hpre⟩
  · rw [h0] at hgt
    simp at hgt
  · refine h2 p.length (by omega) hpl j hj ⟨?_, ?_⟩
    · have := hpre.length_le
      simpa using this
    · rw [← e1]
      exact (List.prefix_iff_eq_take.1 hpre).symm

set_option maxHeartbeats 4000000 in
set_option maxRecDepth 100000 in
/-- the law of the longest end -/
theorem longest_law (a0 : Option Addr) (rb roff n0 cap0 : Nat) (rs : Nat → ByteArray) (rd : ByteArray) (w : World) (h0 : Hid (n0 = 0 ∨ a0 = some ⟨rb, roff, none⟩)) (hrb : 0 < n0 → rb < w.heap.size)
    (hc : ∀ i, i < n0 → w.cell? ⟨rb, roff + i, none⟩ = some (.string (rs i))) :
    Calls Yba.prog 5 #[.slice a0 n0 cap0, .string rd] w fun e w' => e = .returned (.bool true) ∧ Below w.heap.size w w' := by
  by_cases hbig : 256 < n0
  · have hI : (256 : Int) < (n0 : Int) := by omega
    go_enter Yba.func5, Yba.ntmps5
    go_wp2_with fail
    go_ret
    exact ⟨rfl, Below.refl _ _⟩
  have hnI : (n0 : Int) ≤ 256 := by omega
  by_cases hbig2 : 256 < rd.size
  · have hI : (256 : Int) < (rd.size : Int) := by omega
    go_enter Yba.func5, Yba.ntmps5
    go_wp2_with fail
    go_ret
    exact ⟨rfl, Below.refl _ _⟩
  have hrI : (rd.size : Int) ≤ 256 := by omega
  obtain ⟨i5, x0, x1, x2, x3⟩ := info_parts Yba.info5
  have HC : Aside _ := hc
  have HRB : Aside _ := hrb
  clear hc hrb
  go_enter Yba.func5, Yba.ntmps5
  go_wp2_with fail
  go_loopw [6, 25] (fun _ x wr => ∃ i : Nat, i ≤ n0 ∧ x = .int .i64 i ∧ Below w.heap.size w wr ∧ ∀ j, j < i → (rs j).size ≤ 256) (fun _ x _ => 256 - (intOf x).toNat)
  case atStart => exact ⟨0, by omega, rfl, Below.refl _ _, fun j hj => by omega⟩
  case round =>
    obtain ⟨i, hi, rfl, hb, hsz⟩ := hrel
    by_cases hlt : i < n0
    · obtain rfl : a0 = some ⟨rb, roff, none⟩ := h0.out.resolve_left (by omega)
      have hI : (i : Int) < (n0 : Int) := by omega
      have hI0 : (0 : Int) ≤ (i : Int) := by omega
      have cr : wr.cell? ⟨rb, roff + i, none⟩ = some (.string (rs i)) := (hb.cell (HRB.out (by omega))).trans (HC.out i hlt)
      by_cases hz : 256 < (rs i).size
      · have hzI : (256 : Int) < ((rs i).size : Int) := by omega
        go_wp2_with fail
        go_ret
        exact ⟨rfl, hb⟩
      · have hzI : ((rs i).size : Int) ≤ 256 := by omega
        have hsz2 : ∀ j, j < i + 1 → (rs j).size ≤ 256 := fun j hj => by
          by_cases e : j = i
          · rw [e]; omega
          · exact hsz j (by omega)
        have HS : Aside _ := hsz2
        clear hsz hsz2
        go_wp2_with fail
        go_roundw
        case rel => exact ⟨i + 1, by omega, by go_num, hb, HS.out⟩
        case measure => simp [intOf]; omega
    · have e : i = n0 := by omega
      subst e
      have C8 := build_call a0 rb roff i cap0 rs wr (by omega) h0 (fun h => Nat.lt_of_lt_of_le (HRB.out h) hb.size) (fun j hj => (hb.cell (HRB.out (by omega))).trans (HC.out j hj)) hsz
      have HS : Aside _ := hsz
      clear hsz
      go_wp2_with fail
      refine C8.mono ?_
      rintro e w1 ⟨m, tb, v, rfl, hm, htxt, hown, hb1⟩
      obtain ⟨ad, XB, cap, rfl, htx, hty, _⟩ := txv_of hm htxt hown
      have C9 := finder_call (cap := cap) htx hty
      have hbB : Below w.heap.size w w1 := hb.trans ⟨hb1.os, hb1.tape, hb1.output, hb1.size, fun k hk => hb1.block k (Nat.lt_of_lt_of_le hk hb.size)⟩
      clear C8 hown
      go_wp2_with fail
      refine C9.mono ?_
      rintro e w2 ⟨tv, SB, EB, N, M, ks, ke, st, ed, sta, ef, et, wd, cl, nc, vD, rfl, hone, hfo, hb2⟩
      have z36 := zero36
      have s36 := size36
      generalize Z36 = Z at z36 s36
      obtain ⟨hth, hho, hb3⟩ := holds_new s36 (fcs_len tv (.slice (some ⟨SB, 0, none⟩) N ks) (.slice (some ⟨EB, 0, none⟩) M ke) vD sta cl nc) w2
      have hfo3 := hfo.new hb3
      have hfm := hho.fm hfo3.se
      have hl := fcs_len tv (.slice (some ⟨SB, 0, none⟩) N ks) (.slice (some ⟨EB, 0, none⟩) M ke) vD sta cl nc
      have h12 := hbB.trans ⟨hb2.os, hb2.tape, hb2.output, hb2.size, fun k hk => hb2.block k (Nat.lt_of_lt_of_le hk hbB.size)⟩
      have hbF := h12.trans ⟨hb3.os, hb3.tape, hb3.output, hb3.size, fun k hk => hb3.block k (Nat.lt_of_lt_of_le hk h12.size)⟩
      have h23 := hb2.trans ⟨hb3.os, hb3.tape, hb3.output, hb3.size, fun k hk => hb3.block k (Nat.lt_of_lt_of_le hk hb2.size)⟩
      have txd0 : TXd ad XB m tb w1 := ⟨fun h => ⟨(htx.ad h).1, hty h⟩, htx.txt, fun i hi => (htx.sz i hi).2, htx.n6⟩
      have txd := txd0.kept (Kept.of_below h23) (fun _ x => x)
      clear hho hb3 hb2 hfo h23 txd0
      generalize fcs tv (.slice (some ⟨SB, 0, none⟩) N ks) (.slice (some ⟨EB, 0, none⟩) M ke) vD sta cl nc = cs at *
      have e517 : cs.toArray.size = 517 := by rw [List.size_toArray]; exact hl
      have hi2 : (Yba.prog.info? 36).map (·.size) = some cs.toArray.size := by rw [e517]; exact size36b
      have ht2 : (w2.alloc (.cells Z 36)).there w2.heap.size 0 cs.toArray.size := by rw [e517]; exact hth
      have h2 := all_oneCell_toArray hone
      have T := hfo3.T
      have E := hfo3.E
      obtain ⟨eB, hB⟩ := hfo3.bld
      have HST : Aside _ := hfo3.hst
      have HLP : Aside _ := hfo3.hLP
      clear C9 hone hth hb1 hbB hb htx e517 hl h12 hfo3
      go_upto_region 11 with (first | (refine wpList_store_mid rfl 36 (.tmp 8) (.tmp 36) rfl w2.heap.size 0 cs.toArray rfl rfl ht2 hi2 h2 ?_))
      generalize (w2.alloc (Obj.cells Z 36)).setCells w2.heap.size 0 cs = W at *
      clear ht2 hi2 h2 z36 s36
      go_wp2_with (at_make; refine wpList_make_own W rfl (.const (.int .i64 0)) (.tmp 38) 38 rfl W.heap.size 5 i5 _ 1 Yba.underlying38 x0 x1 x2 .i64 .i64 rd.size rd.size rfl rfl rfl ?b2 ?b3 ?b4 ?_)
      case b2 => rw [x3]; omega
      case b3 => unfold maxLen; omega
      case b4 => exact Nat.le_refl _
      intro w3 ho3 hg3
      have k3 : Below W.heap.size W w3 := ⟨hg3.os, hg3.tape, hg3.output, hg3.size, fun k hk => hg3.block k hk (by simp)⟩
      clear hg3
      go_wp2_with fail
      go_loopw [9, 10, 11, 12] (fun sv wv x _ wr => ∃ (k s : Nat) (v : List Nat), k ≤ rd.size ∧ x = .int .i64 k ∧ sv = .int .i32 s ∧ LS N wd v s ∧ v.length = k ∧ (∀ y, y ∈ v → y < 256) ∧ wr.ownsRow W.heap.size 5 1 wv k (bL v) ∧ Below W.heap.size W wr) (fun _ _ x _ _ => 256 - (intOf x).toNat)
      case atStart => exact ⟨0, 0, [], by omega, rfl, rfl, LS.empty T, rfl, (fun y hy => by cases hy), ho3, k3⟩
      case round =>
        clear k3 ho3
        obtain ⟨k, s, v, hk, rfl, rfl, hls, hvl, hv8, hrow, hbW⟩ := hrel
        have HVL : Hid (v.length = k) := hvl
        have HV8 : Aside _ := hv8
        have hk0 : (0 : Int) ≤ (k : Int) := by omega
        have hfmr := hfm.new hbW
        clear hvl hv8
        by_cases hlk : k < rd.size
        · have hkI : (k : Int) < (rd.size : Int) := by omega
          have hr8 : rd[k].toNat < 256 := rd[k].toNat_lt
          have C10 := map4_call hr8 wr
          go_wp2_with fail
          refine C10.mono ?_
          rintro e w4 ⟨b, hb8, rfl, rfl⟩
          have C11 := next_call T E hfmr HST.out (s0 := s) (b := b) hls.1 hb8 (fun x x0 xN _ => HLP.out x x0 xN)
          clear C10
          go_wp2_with fail
          refine C11.mono ?_
          rintro e w5 ⟨r, rfl, hr, hb5⟩
          have row5 := (Kept.of_below hb5).owns hrow (fun _ _ x => x)
          have hbW5 : Below W.heap.size W w5 := hbW.trans ⟨hb5.os, hb5.tape, hb5.output, hb5.size, fun j hj => hb5.block j (Nat.lt_of_lt_of_le hj hbW.size)⟩
          have sz5 := hbW5.size
          have hls2 := hls.read T hr
          clear C11 hb5 hrow hls hbW hfmr
          go_wp2_with (at_builtin; refine wpList_append2 rfl (.tmp 53) (.tmp 55) 38 rfl W.heap.size 5 i5 (.int .u8 0) 1 1 Yba.underlying38 x0 x1 x2 x3 rfl (by decide) _ k (bL v) rfl (row5.alloc _) ⟨w5.heap.size, 0, none⟩ 1 1 [.int .u8 b] rfl rfl ?c1 ?c2 ?c3 ?c4 ?c5 (by decide) ?_)
          case c1 => exact fun j x hj => new_one w5 _ 5 j x hj
          case c2 =>
            intro x hx
            rw [List.mem_singleton] at hx
            subst hx; rfl
          case c3 => unfold maxLen; omega
          case c4 => omega
          case c5 => simp; omega
          intro g' cap' wa ho' hg' _
          have hbA : Below W.heap.size W wa := (kept_app hg').below hbW5 sz5 (fun g x => own_le row5 g x)
          rw [show bL v ++ [.int .u8 b] = bL (v ++ [b]) from by simp [bL]] at ho'
          have hlen2 : Hid ((v ++ [b]).length = k + 1) := by show _ = _; rw [List.length_append, HVL.out]; rfl
          have hv82 : ∀ y, y ∈ v ++ [b] → y < 256 := fun y hy => by
            rcases List.mem_append.1 hy with hy | hy
            · exact HV8.out y hy
            · rw [List.mem_singleton] at hy; omega
          have HV82 : Aside _ := hv82
          clear hv82 hg' row5 hr hbW5
          go_wp2_with fail
          go_roundw
          case rel => exact ⟨k + 1, r, v ++ [b], by omega, by go_num, rfl, hls2, hlen2.out, HV82.out, ho', hbA⟩
          case measure => simp [intOf]; omega
        · have hkI : (rd.size : Int) ≤ (k : Int) := by omega
          obtain ⟨wa, wc, hv⟩ := qslice hrow
          subst hv
          have hcap : k ≤ wc := by
            rcases hrow.2 with ⟨h0', h3⟩ | ⟨g, cap', cur, h0', _, _, h3, _⟩
            · omega
            · simp only [Value.slice.injEq] at h0'
              omega
          have hvub : ∀ (j : Nat) x, (ub v)[j]? = some x → ∃ y, v[j]? = some y ∧ x.toNat = y := fun j x hx => by
            unfold ub at hx
            rw [List.getElem?_map] at hx
            obtain ⟨y, hy, rfl⟩ := Option.map_eq_some_iff.1 hx
            refine ⟨y, hy, ?_⟩
            exact ofNat_toNat (HV8.out y (List.mem_of_getElem? hy))
          obtain ⟨WB, hwa, hcv⟩ : ∃ WB, (0 < k → wa = some ⟨WB, 0, none⟩ ∧ WB < wr.heap.size) ∧ ∀ (j y : Nat), v[j]? = some y → wr.cell? ⟨WB, j, none⟩ = some (.int .u8 y) := by
            by_cases k0 : 0 < k
            · obtain ⟨WB, c', hv', tW, _, _, _, hcell⟩ := row_at hrow k0
              simp only [Value.slice.injEq] at hv'
              refine ⟨WB, fun _ => ⟨hv'.1, tyOf_lt tW⟩, fun j y hy => (hcell j (by have := (List.getElem?_eq_some_iff.1 hy).1; have := HVL.out; omega)).trans ?_⟩
              simp [bL, hy]
            · exact ⟨0, fun h => absurd h k0, fun j y hy => absurd (List.getElem?_eq_some_iff.1 hy).1 (by have := HVL.out; omega)⟩
          have hlub : (ub v).length = k := by unfold ub; rw [List.length_map, HVL.out]
          have C12 := longest_call (cap := cap) (wc := wc) (ub v) hlub (fun j x hx => by
            obtain ⟨y, hy, e⟩ := hvub j x hx
            rw [e]; exact hcv j y hy) hwa (by omega) hcap (txd.kept (Kept.of_below hbW) (fun _ x => x))
          clear hvub
          go_wp2_with fail
          refine C12.mono ?_
          rintro e w6 ⟨kk, ua, uc, rfl, hkk, hua, hfit, hmax, hb6⟩
          obtain ⟨t, htN, etw, hlst⟩ := longest_state hB hlub hkk hfit hmax
          rw [bw_ub HV8.out] at etw hlst
          have hbW6 : Below W.heap.size W w6 := hbW.trans ⟨hb6.os, hb6.tape, hb6.output, hb6.size, fun j hj => hb6.block j (Nat.lt_of_lt_of_le hj hbW.size)⟩
          have C13 := state_call (uc := uc) (n := kk) (UB := WB) (uo := k - kk) (ua := ua) (v.drop (k - kk)) (show (v.drop (k - kk)).length = kk by rw [List.length_drop, HVL.out]; omega) T E (hfm.new hbW6) HST.out (fun j y hy => by
            rw [List.getElem?_drop] at hy
            have hlt := (List.getElem?_eq_some_iff.1 hy).1
            have hk0 : 0 < k := by have := HVL.out; omega
            exact (hb6.cell (hwa hk0).2).trans (hcv _ _ hy)) (fun h => ⟨hua h, Nat.lt_of_lt_of_le (hwa (by omega)).2 hb6.size⟩) (fun y hy => HV8.out y (List.mem_of_mem_drop hy)) (by omega) htN etw
          have est : s = t := LS.uniq T hls hlst
          subst est
          clear C12 hfit hmax hlst etw hlub hcap hrow
          go_wp2_with fail
          refine C13.mono ?_
          rintro e w7 ⟨rfl, hb7⟩
          have s0 : (0 : Int) ≤ (s : Int) := by omega
          have hb67 : Below W.heap.size W w7 := hbW6.trans ⟨hb7.os, hb7.tape, hb7.output, hb7.size, fun j hj => hb7.block j (Nat.lt_of_lt_of_le hj hbW6.size)⟩
          have hbE : Below w.heap.size w w7 := hbF.trans ⟨hb67.os, hb67.tape, hb67.output, hb67.size, fun j hj => hb67.block j (Nat.lt_of_lt_of_le hj hbF.size)⟩
          clear C13
          go_wp2_with fail
          go_ret
          exact ⟨rfl, hbE⟩
end Go.Proofs.Ybulkckss
