import Derived.Test.YbulkckssDn
namespace Go.Proofs.Ybulkckss
open Go.RowKit

/-- the k-th statement of makeDense -/
def nthD : Nat → Code → Code
  | 0, .seq a _ => a
  | n + 1, .seq _ b => nthD n b
  | _, c => c
noncomputable def dtm (k : Nat) : Code := nthD k (Yba.f22.body.getD .skip)
theorem Yba.info5d : (Yba.prog.info? 5).map (fun i => (i.zero, i.size, i.bytes)) = some (some (.int .u8 0), 1, 1) := by kernel_rfl
def bL (bs : List Nat) : List Value := bs.map fun (b : Nat) => Value.int .u8 b
theorem own_tyd {w : World} {base : Nat} {e : TypeId} {size : Nat} {v : Value} {n : Nat} {xs : List Value} (h : w.ownsRow base e size v n xs) (g : Nat) (hg : v.ownBlock = some g) : base ≤ g ∧ tyOf w g = some e := by
  rcases h.2 with ⟨rfl, _⟩ | ⟨g', cap, cur, rfl, hb, hc, _⟩
  · cases hg
  · simp only [Value.ownBlock, Option.some.injEq] at hg; subst hg; exact ⟨hb, tyOf_of hc⟩
theorem new_one (w2 : World) (a : Value) (t : TypeId) (j : Nat) (x : Value) (hj : ([a] : List Value)[j]? = some x) : (w2.alloc (.cells #[a] t)).cell? ((⟨w2.heap.size, 0, none⟩ : Addr).add j) = some x := by
  have e2 : (w2.alloc (.cells #[a] t)).heap[w2.heap.size]? = some (.cells #[a] t) := (MapKept.heap_alloc w2 _).1
  have e3 : (⟨w2.heap.size, 0, none⟩ : Addr).add j = ⟨w2.heap.size, 0 + j, none⟩ := by unfold Addr.add; split <;> simp_all
  rw [e3, Nat.zero_add]
  simp only [World.cell?, e2]
  simpa using hj
/-- the texts -/
structure TXd (ad : Option Addr) (XB n : Nat) (tx : Nat → ByteArray) (w : World) : Prop where
  ad : 0 < n → ad = some ⟨XB, 0, none⟩ ∧ tyOf w XB = some 9
  txt : ∀ i, i < n → w.cell? ⟨XB, i, none⟩ = some (.string (tx i))
  sz : ∀ i, i < n → (tx i).size ≤ 256
  n6 : n ≤ 256
theorem TXd.kept {ad : Option Addr} {XB n : Nat} {tx : Nat → ByteArray} {w w' : World} {S : Nat → Prop} (h : TXd ad XB n tx w) (k : Kept S w w') (hS : 0 < n → ¬ S XB) : TXd ad XB n tx w' :=
  ⟨fun hn => ⟨(h.ad hn).1, (tyOf_congr (k.block XB (tyOf_lt (h.ad hn).2) (hS hn))).trans (h.ad hn).2⟩, fun i hi => (World.cell?_of_block (k.block XB (tyOf_lt (h.ad (by omega)).2) (hS (by omega)))).trans (h.txt i hi), h.sz, h.n6⟩
/-- the classes while they are found -/
structure DC (F SB EB N M ks ke : Nat) (st : Nat → Nat → Int) (ed : Nat → Nat × Nat) (sta : Nat → Nat) (TB : Nat) (ad : Option Addr) (XB n cap : Nat) (tx : Nat → ByteArray) (base : Nat) (bs : List Nat) (cl : Nat → Nat) (v : Value) (w0 w : World) : Prop where
  dm : DM F SB EB N M ks ke st ed sta TB (.slice ad n cap) cl (.slice none 0 0) 0 w
  row : w.ownsRow base 5 1 v bs.length (bL bs)
  cls : Cls bs cl
  tx : TXd ad XB n tx w
  le : base ≤ w.heap.size
  kept : Kept (fun k => k = F) w0 w
  b0 : w0.heap.size ≤ base
section
variable {F SB EB N M ks ke : Nat} {st : Nat → Nat → Int} {ed : Nat → Nat × Nat} {sta : Nat → Nat} {TB : Nat} {ad : Option Addr} {XB n cap : Nat} {tx : Nat → ByteArray} {base : Nat} {bs : List Nat} {cl : Nat → Nat} {v : Value} {w0 w w' : World}
theorem DC.new (h : DC F SB EB N M ks ke st ed sta TB ad XB n cap tx base bs cl v w0 w) (b : Below w.heap.size w w') : DC F SB EB N M ks ke st ed sta TB ad XB n cap tx base bs cl v w0 w' :=
  ⟨h.dm.new b, (Kept.of_below b).owns h.row (fun _ _ x => x), h.cls, h.tx.kept (Kept.of_below b) (fun _ x => x), Nat.le_trans h.le b.size, h.kept.trans ((Kept.of_below b).weak (fun _ x => x.elim)), h.b0⟩
/-- behind the append and the store -/
theorem DC.push (h : DC F SB EB N M ks ke st ed sta TB ad XB n cap tx base bs cl v w0 w) {b : Nat} {v' : Value} (hb : b < 256) (hz : cl b = 0) (k : Kept (fun j => v.ownBlock = some j) w w') (ho : w'.ownsRow base 5 1 v' (bs.length + 1) (bL bs ++ [.int .u8 b])) :
    DC F SB EB N M ks ke st ed sta TB ad XB n cap tx base (bs ++ [b]) (fun x => if x = b then bs.length + 1 else cl x) v' w0 (w'.setCell ⟨F, 260 + b, none⟩ (.int .u16 ((bs.length + 1 : Nat) : Int))) := by
  have hne : ∀ g T, tyOf w g = some T → T ≠ 5 → ¬ v.ownBlock = some g := fun g T hT hn x => hn (Option.some.inj (hT.symm.trans (own_tyd h.row g x).2))
  have d2 := h.dm.kept k (hne F _ h.dm.fm.tF (by decide)) (hne SB _ h.dm.fm.tS (by decide)) (hne EB _ h.dm.fm.tE (by decide)) (hne TB _ h.dm.tB (by decide))
  have d3 := d2.setC b (bs.length + 1) hb
  have tF := d2.fm.tF
  have t2 := h.tx.kept k (fun hn => hne XB _ (h.tx.ad hn).2 (by decide))
  refine ⟨d3, ?_, h.cls.add hb hz, t2.kept ((Kept.refl (fun k => k = F) w').setCell rfl _) (fun hn e => tyOf_ne (t2.ad hn).2 tF (by decide) e), by simpa using Nat.le_trans h.le k.size, ?_, h.b0⟩
  · rw [List.length_append]
    have e : bL bs ++ [.int .u8 b] = bL (bs ++ [b]) := by simp [bL]
    rw [e] at ho
    exact set_owns ho tF (by decide)
  · refine Kept.setCell (S := fun k => k = F) ?_ rfl _
    exact ⟨k.os.trans h.kept.os, k.tape.trans h.kept.tape, k.output.trans h.kept.output, Nat.le_trans h.kept.size k.size, fun j hj hS => (k.block j (Nat.lt_of_lt_of_le hj h.kept.size) (fun x => by have := (own_tyd h.row j x).1; have := h.b0; omega)).trans (h.kept.block j hj hS)⟩
end

set_option maxHeartbeats 4000000 in
set_option maxRecDepth 100000 in
/-- the bytes' classes -/
theorem dtm2 (F SB EB N M ks ke : Nat) (st : Nat → Nat → Int) (ed : Nat → Nat × Nat) (sta : Nat → Nat) (TB : Nat) (ad : Option Addr) (XB n cap : Nat) (tx : Nat → ByteArray) (base : Nat) (w0 w : World) (h : DC F SB EB N M ks ke st ed sta TB ad XB n cap tx base [] (fun _ => 0) (.slice none 0 0) w0 w) (Q : Exit → Act → World → Prop) (c0 c1 c3 c5 c6 c7 c8 c9 c10 c11 c12 c13 c14 c15 c16 c17 c18 c19 c20 c21 c22 c23 c24 c25 c26 c27 c28 c29 c30 c31 c32 c33 c34 c35 c36 c37 c38 c39 c40 c41 c42 c43 c44 c45 c46 c47 c48 c49 c50 c51 c52 c53 c54 c55 c56 c57 c58 c59 c60 c61 c62 c63 c64 c65 c66 c67 c68 c69 c70 c71 c72 c73 c74 c75 c76 c77 c78 c79 c80 c81 c82 c83 c84 c85 c86 c87 c88 c89 c90 c91 c92 c93 c94 c95 c96 c97 c98 c99 c100 c101 c102 c103 c104 c105 c106 c107 c108 c109 c110 c111 c112 c113 c114 c115 c116 c117 c118 c119 c120 c121 c122 c123 c124 c125 c126 c127 c128 c129 c130 c131 c132 c133 c134 c135 c136 c137 c138 c139 c140 c141 c142 c143 c144 c145 c146 c147 c148 c149 c150 c151 c152 c153 c154 c155 c156 c157 c158 c159 c160 c161 c162 c163 c164 c165 c166 c167 c168 c169 c170 c171 c172 c173 c174 c175 c176 c177 c178 c179 c180 c181 c182 c183 c184 c185 c186 c187 c188 c189 c190 c191 c192 c193 c194 c195 c196 : Value)
    (hQ : ∀ (u6 u7 u17 u18 u19 u20 u21 u22 u23 u24 u25 u26 u27 u28 u29 u30 u31 u32 u33 u34 u35 u36 u37 u38 u39 u40 u41 u42 u43 u44 u45 u46 u47 u48 u49 u50 u51 u52 u53 u54 u55 u56 u57 : Value) (v : Value) (bs : List Nat) (cl : Nat → Nat) (w' : World), DC F SB EB N M ks ke st ed sta TB ad XB n cap tx base bs cl v w0 w' → (∀ j k (hk : k < (tx j).size), j < n → cl (tx j)[k].toNat ≠ 0) → Q .normal ⟨#[c0, c1, .pointer (some ⟨TB, 0, none⟩), c3, v, c5, u6, u7, c8, c9, c10, c11, c12, c13, c14, c15, c16, u17, u18, u19, u20, u21, u22, u23, u24, u25, u26, u27, u28, u29, u30, u31, u32, u33, u34, u35, u36, u37, u38, u39, u40, u41, u42, u43, u44, u45, u46, u47, u48, u49, u50, u51, u52, u53, u54, u55, u56, u57, c58, c59, c60, c61, c62, c63, c64, c65, c66, c67, c68, c69, c70, c71, c72, c73, c74, c75, c76, c77, c78, c79, c80, c81, c82, c83, c84, c85, c86, c87, c88, c89, c90, c91, c92, c93, c94, c95, c96, c97, c98, c99, c100, c101, c102, c103, c104, c105, c106, c107, c108, c109, c110, c111, c112, c113, c114, c115, c116, c117, c118, c119, c120, c121, c122, c123, c124, c125, c126, c127, c128, c129, c130, c131, c132, c133, c134, c135, c136, c137, c138, c139, c140, c141, c142, c143, c144, c145, c146, c147, c148, c149, c150, c151, c152, c153, c154, c155, c156, c157, c158, c159, c160, c161, c162, c163, c164, c165, c166, c167, c168, c169, c170, c171, c172, c173, c174, c175, c176, c177, c178, c179, c180, c181, c182, c183, c184, c185, c186, c187, c188, c189, c190, c191, c192, c193, c194, c195, c196], []⟩ w') :
    Code.wp Yba.prog (dtm 2) Q ⟨#[c0, c1, .pointer (some ⟨TB, 0, none⟩), c3, .slice none 0 0, c5, c6, c7, c8, c9, c10, c11, c12, c13, c14, c15, c16, c17, c18, c19, c20, c21, c22, c23, c24, c25, c26, c27, c28, c29, c30, c31, c32, c33, c34, c35, c36, c37, c38, c39, c40, c41, c42, c43, c44, c45, c46, c47, c48, c49, c50, c51, c52, c53, c54, c55, c56, c57, c58, c59, c60, c61, c62, c63, c64, c65, c66, c67, c68, c69, c70, c71, c72, c73, c74, c75, c76, c77, c78, c79, c80, c81, c82, c83, c84, c85, c86, c87, c88, c89, c90, c91, c92, c93, c94, c95, c96, c97, c98, c99, c100, c101, c102, c103, c104, c105, c106, c107, c108, c109, c110, c111, c112, c113, c114, c115, c116, c117, c118, c119, c120, c121, c122, c123, c124, c125, c126, c127, c128, c129, c130, c131, c132, c133, c134, c135, c136, c137, c138, c139, c140, c141, c142, c143, c144, c145, c146, c147, c148, c149, c150, c151, c152, c153, c154, c155, c156, c157, c158, c159, c160, c161, c162, c163, c164, c165, c166, c167, c168, c169, c170, c171, c172, c173, c174, c175, c176, c177, c178, c179, c180, c181, c182, c183, c184, c185, c186, c187, c188, c189, c190, c191, c192, c193, c194, c195, c196], []⟩ w := by
  have hn6 := h.tx.n6
  have hnI : (n : Int) ≤ 256 := by omega
  obtain ⟨i5, x0, x1, x2, x3⟩ := info_parts Yba.info5d
  have HQQ : Aside _ := hQ
  clear hQ
  have c0 := h.dm.c0
  have bx := h.dm.bx
  conv => arg 2; whnf
  go_wp2_with fail
  clear c0 bx
  go_loopw [4, 6, 7, 22] (fun v _ _ x wr => ∃ (i : Nat) (bs : List Nat) (cl : Nat → Nat), i ≤ n ∧ x = .int .i64 i ∧ DC F SB EB N M ks ke st ed sta TB ad XB n cap tx base bs cl v w0 wr ∧ (∀ j k (hk : k < (tx j).size), j < i → cl (tx j)[k].toNat ≠ 0)) (fun _ _ _ x _ => 256 - (intOf x).toNat)
  case atStart => exact ⟨0, [], fun _ => 0, by omega, rfl, h, fun j k _ hj => by omega⟩
  case round =>
    clear h
    obtain ⟨i, bs, cl, hi, rfl, hD, hall⟩ := hrel
    by_cases hlt : i < n
    · have hI : (i : Int) < (n : Int) := by omega
      have hI0 : (0 : Int) ≤ (i : Int) := by omega
      obtain rfl := (hD.tx.ad (by omega)).1
      have ct := hD.tx.txt i hlt
      have hz := hD.tx.sz i hlt
      have hzI : ((tx i).size : Int) ≤ 256 := by omega
      have HALL : Aside _ := hall
      clear hall
      go_wp2_with fail
      clear ct
      go_loopw [4, 7] (fun v x wr => ∃ (k : Nat) (bs' : List Nat) (cl' : Nat → Nat), k ≤ (tx i).size ∧ x = .int .i64 k ∧ DC F SB EB N M ks ke st ed sta TB (some ⟨XB, 0, none⟩) XB n cap tx base bs' cl' v w0 wr ∧ (∀ b, cl b ≠ 0 → cl' b ≠ 0) ∧ (∀ j (hj : j < (tx i).size), j < k → cl' (tx i)[j].toNat ≠ 0)) (fun _ x _ => 256 - (intOf x).toNat)
      case atStart => exact ⟨0, bs, cl, by omega, rfl, hD, fun b hb => hb, fun j _ hj => by omega⟩
      case round =>
        clear hD
        obtain ⟨k, bs', cl', hk, rfl, hD, hm, hs⟩ := hrel
        by_cases hltk : k < (tx i).size
        · have hkI : (k : Int) < ((tx i).size : Int) := by omega
          have hk0 : (0 : Int) ≤ (k : Int) := by omega
          have hb8 : (tx i)[k].toNat < 256 := (tx i)[k].toNat_lt
          have bx := hD.dm.bx
          have cc := hD.dm.cC (tx i)[k].toNat hb8
          have hbI : ((tx i)[k].toNat : Int) < 256 := by omega
          have hlen := hD.cls.len
          have hle := hD.le
          by_cases hz0 : cl' (tx i)[k].toNat = 0
          · rw [hz0] at cc
            have HD : Aside _ := hD
            have HM : Aside _ := hm
            have HS : Aside _ := hs
            have HZ0 : Hid (cl' (tx i)[k].toNat = 0) := hz0
            have hDd := hD.new (Below.refl _ _).drew
            have fzF := tyOf_frozen hD.dm.fm.tF
            clear hs hm hz0
            go_wp2_with fail
            go_region_held3 (fun w' => w'.cell? ⟨TB, 0, none⟩ = some (.pointer (some ⟨F, 0, none⟩)) ∧ w'.cell? ⟨F, 260 + (tx i)[k].toNat, none⟩ = some (.int .u16 ((0 : Nat) : Int))) (go_keep) (fail)
            have hlI : (bs'.length : Int) ≤ 256 := by omega
            clear bx cc HD
            go_wp2_with (at_builtin; refine wpList_append2 rfl (.tmp 41) (.tmp 45) 38 rfl base 5 i5 (.int .u8 0) 1 1 Yba.underlying38 x0 x1 x2 x3 rfl (by decide) _ bs'.length (bL bs') rfl (hDd.row.alloc _) ⟨wr.heap.size, 0, none⟩ 1 1 [.int .u8 (tx i)[k].toNat] rfl rfl ?c1 ?c2 ?c3 ?c4 ?c5 (by decide) ?_)
            case c1 => exact fun j x hj => new_one wr.drew _ 5 j x hj
            case c2 =>
              intro x hx
              rw [List.mem_singleton] at hx
              subst hx; rfl
            case c3 => unfold maxLen; omega
            case c4 => omega
            case c5 => simp; omega
            intro g' cap' wa ho' hg' _
            have ka : Kept (fun j => u4.ownBlock = some j) wr.drew wa := ⟨hg'.os, hg'.tape, hg'.output, Nat.le_trans (by simp) hg'.size, fun j hj hS => (hg'.block j (by simp at hj ⊢; omega) (fun e => hS e.symm)).trans (Below.heap_alloc _ _ j hj)⟩
            have d2 := hDd.dm.kept ka (fun e => tyOf_ne hDd.dm.fm.tF (own_tyd hDd.row _ e).2 (by decide) rfl) (fun e => tyOf_ne hDd.dm.fm.tS (own_tyd hDd.row _ e).2 (by decide) rfl) (fun e => tyOf_ne hDd.dm.fm.tE (own_tyd hDd.row _ e).2 (by decide) rfl) (fun e => tyOf_ne hDd.dm.tB (own_tyd hDd.row _ e).2 (by decide) rfl)
            have bxa := d2.bx
            have cca := d2.cC (tx i)[k].toNat hb8
            have fza := tyOf_frozen d2.fm.tF
            have fin0 := hDd.push hb8 HZ0.out ka ho'
            rw [show ((bs'.length + 1 : Nat) : Int) = (bs'.length : Int) + 1 from by push_cast; rfl] at fin0
            have fin := fin0.new (Below.refl _ _).drew
            have hnTF := d2.nTB
            have hw16 : IntKind.u16.wrap ((bs'.length : Int) + 1) = (bs'.length : Int) + 1 := by rw [IntKind.wrap_u16]; omega
            have KS : ∀ x, (wa.setCell ⟨F, 260 + (tx i)[k].toNat, none⟩ x).drew.cell? ⟨TB, 0, none⟩ = some (.pointer (some ⟨F, 0, none⟩)) := fun x => (set_cell_ne (w := wa) hnTF).trans bxa
            have hs2 : ∀ j (hj : j < (tx i).size), j < k + 1 → (if (tx i)[j].toNat = (tx i)[k].toNat then bs'.length + 1 else cl' (tx i)[j].toNat) ≠ 0 := fun j hj hjk => by
              by_cases e : (tx i)[j].toNat = (tx i)[k].toNat
              · rw [if_pos e]; omega
              · rw [if_neg e]
                refine HS.out j hj ?_
                refine Nat.lt_of_le_of_ne (by omega) (fun e2 => e ?_)
                subst e2; rfl
            have hm2 : ∀ b, cl b ≠ 0 → (if b = (tx i)[k].toNat then bs'.length + 1 else cl' b) ≠ 0 := fun b hb => by
              by_cases e : b = (tx i)[k].toNat
              · rw [if_pos e]; omega
              · rw [if_neg e]; exact HM.out b hb
            have HS2 : Aside _ := hs2
            have HM2 : Aside _ := hm2
            clear hs2 hm2 d2 fin0 ka ho' hg' hD hDd fzF HZ0
            go_wp2_with fail
            go_region_held3 (fun w' => w'.cell? ⟨TB, 0, none⟩ = some (.pointer (some ⟨F, 0, none⟩))) (first | exact KS _ | go_keep) (fail)
            clear KS bxa cca fza
            go_wp2_with fail
            go_roundw
            case rel => exact ⟨k + 1, _, _, by omega, by go_num, fin, HM2.out, HS2.out⟩
            case measure => simp [intOf]; omega
          · have hz1 : (((cl' (tx i)[k].toNat : Nat) : Int) == 0) = false := by simp; omega
            have hz2 : ∀ j (hj : j < (tx i).size), j < k + 1 → cl' (tx i)[j].toNat ≠ 0 := fun j hj hjk => by
              by_cases e : j = k
              · subst e; exact hz0
              · exact hs j hj (by omega)
            have HS : Aside _ := hz2
            have HM : Aside _ := hm
            have hcl := hD.cls.le (tx i)[k].toNat
            have hclI : (cl' (tx i)[k].toNat : Int) ≤ 256 := by omega
            have hDd := hD.new (Below.refl _ _).drew
            clear hs hm hz0 hz2 hD
            go_wp2_with fail
            go_region_held3 (fun w' => w'.cell? ⟨TB, 0, none⟩ = some (.pointer (some ⟨F, 0, none⟩)) ∧ w'.cell? ⟨F, 260 + (tx i)[k].toNat, none⟩ = some (.int .u16 (cl' (tx i)[k].toNat))) (go_keep) (fail)
            clear bx cc
            go_wp2_with fail
            go_roundw
            case rel => exact ⟨k + 1, _, _, by omega, by go_num, hDd, HM.out, HS.out⟩
            case measure => simp [intOf]; omega
        · have e : k = (tx i).size := by omega
          have hkI : (((tx i).size : Nat) : Int) ≤ (k : Int) := by omega
          have hall2 : ∀ j k (hk : k < (tx j).size), j < i + 1 → cl' (tx j)[k].toNat ≠ 0 := fun j k' hk' hj => by
            by_cases e2 : j = i
            · subst e2; exact hs k' hk' (by omega)
            · exact hm _ (HALL.out j k' hk' (by omega))
          have HA2 : Aside _ := hall2
          clear hs hm hall2 e
          go_wp2_with fail
          go_roundw
          case rel => exact ⟨i + 1, _, _, by omega, by go_num, hD, HA2.out⟩
          case measure => simp [intOf]; omega
    · have e : i = n := by omega
      subst e
      have HALL : Aside _ := hall
      clear hall
      go_wp2_with fail
      have hQ := HQQ.out
      exact hQ _ _ _ _ _ _ _ _ _ _ _ _ _ _ _ _ _ _ _ _ _ _ _ _ _ _ _ _ _ _ _ _ _ _ _ _ _ _ _ _ _ _ _ _ bs cl wr hD HALL.out
end Go.Proofs.Ybulkckss
