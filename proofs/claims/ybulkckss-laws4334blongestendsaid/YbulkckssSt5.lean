import Derived.Test.YbulkckssSt4
import Derived.Test.YbulkckssPr
import Derived.Test.YbulkckssBB
namespace Go.Proofs.Ybulkckss
open Go.RowKit Go.Lib

/-- the cells of m edges of the finder -/
def eL (f : Nat → Nat × Nat) : Nat → List Value
  | 0 => []
  | m + 1 => eL f m ++ [.int .u8 (f m).1, .int .i32 (f m).2]
theorem eL_len (f : Nat → Nat × Nat) (m : Nat) : (eL f m).length = m * 2 := by
  induction m with
  | zero => rfl
  | succ m ih => unfold eL; rw [List.length_append, ih]; simp; omega
theorem eL_get (f : Nat → Nat × Nat) (m : Nat) : ∀ k, k < m → (eL f m)[k * 2]? = some (.int .u8 (f k).1) ∧ (eL f m)[k * 2 + 1]? = some (.int .i32 (f k).2) := by
  induction m with
  | zero => intro k hk; omega
  | succ m ih =>
    intro k hk
    have hl := eL_len f m
    unfold eL
    by_cases e : k = m
    · subst e
      rw [List.getElem?_append_right (by omega), List.getElem?_append_right (by omega), hl]
      rw [show k * 2 - k * 2 = 0 from by omega, show k * 2 + 1 - k * 2 = 1 from by omega]
      exact ⟨rfl, rfl⟩
    · obtain ⟨h1, h2⟩ := ih k (by omega)
      rw [List.getElem?_append_left (by omega), List.getElem?_append_left (by omega)]
      exact ⟨h1, h2⟩

theorem own_le {w : World} {base : Nat} {e : TypeId} {size : Nat} {v : Value} {n : Nat} {xs : List Value} (h : w.ownsRow base e size v n xs) (g : Nat) (hg : v.ownBlock = some g) : base ≤ g := by
  rcases h.2 with ⟨rfl, _⟩ | ⟨g', cap, cur, rfl, hb, _, _⟩
  · cases hg
  · simp only [Value.ownBlock, Option.some.injEq] at hg; subst hg; exact hb
/-- the finder while its edges are laid -/
structure GE (RF : Nat → Option Value) (base F SB N ks : Nat) (vM : Value) (M : Nat) (ed : Nat → Nat × Nat) (st : Nat → Nat → Int) (sta : Nat → Nat) (w : World) : Prop where
  tF : tyOf w F = some 36
  cS : w.cell? ⟨F, 1, none⟩ = some (.slice (some ⟨SB, 0, none⟩) N ks)
  cM : w.cell? ⟨F, 2, none⟩ = some vM
  cA : ∀ b, b < 256 → w.cell? ⟨F, 3 + b, none⟩ = some (.int .i32 (sta b))
  tS : tyOf w SB = some 47
  cs : ∀ s f, s < N → f < 5 → w.cell? ⟨SB, s * 5 + f, none⟩ = some (.int .i32 (st s f))
  oM : w.ownsRow base 54 2 vM M (eL ed M)
  N6 : N ≤ 65537
  sz : base ≤ w.heap.size
  nn : ∃ gg c, vM = .slice (some ⟨gg, 0, none⟩) M c
  rF : ∀ o, o = 0 ∨ 259 ≤ o → w.cell? ⟨F, o, none⟩ = RF o
section
variable {RF : Nat → Option Value} {base F SB N ks M : Nat} {vM : Value} {ed : Nat → Nat × Nat} {st : Nat → Nat → Int} {sta : Nat → Nat} {w w' : World}
theorem GE.kept {S : Nat → Prop} (h : GE RF base F SB N ks vM M ed st sta w) (k : Kept S w w') (h1 : ¬ S F) (h2 : ¬ S SB) (h3 : ∀ g, vM.ownBlock = some g → ¬ S g) : GE RF base F SB N ks vM M ed st sta w' := by
  have e1 := k.block F (tyOf_lt h.tF) h1
  have e2 := k.block SB (tyOf_lt h.tS) h2
  exact ⟨(tyOf_congr e1).trans h.tF, (World.cell?_of_block e1).trans h.cS, (World.cell?_of_block e1).trans h.cM, fun b hb => (World.cell?_of_block e1).trans (h.cA b hb), (tyOf_congr e2).trans h.tS,
    fun s f hs hf => (World.cell?_of_block e2).trans (h.cs s f hs hf), k.owns h.oM h3, h.N6, Nat.le_trans h.sz k.size, h.nn, fun o ho => (World.cell?_of_block e1).trans (h.rF o ho)⟩
theorem GE.setS (h : GE RF base F SB N ks vM M ed st sta w) (s f : Nat) (hf : f < 5) (v : Int) : GE RF base F SB N ks vM M ed (upS st s f v) sta (w.setCell ⟨SB, s * 5 + f, none⟩ (.int .i32 v)) := by
  have n1 := tyOf_ne h.tF h.tS (by decide)
  refine ⟨(set_ty h.tS).trans h.tF, (set_cell_ne n1).trans h.cS, (set_cell_ne n1).trans h.cM, fun b hb => (set_cell_ne n1).trans (h.cA b hb), (set_ty h.tS).trans h.tS, fun x y hx hy => ?_, set_owns h.oM h.tS (by decide), h.N6, by simpa using h.sz, h.nn, fun o ho => (set_cell_ne n1).trans (h.rF o ho)⟩
  rw [set_cell (h.cs x y hx hy)]
  unfold upS
  by_cases e : x = s ∧ y = f
  · obtain ⟨rfl, rfl⟩ := e
    simp
  · rw [if_neg e, if_neg (fun z => by simp only [Addr.mk.injEq, true_and, and_true] at z; exact e ⟨by omega, by omega⟩)]
theorem GE.setA (h : GE RF base F SB N ks vM M ed st sta w) (b v : Nat) (hb : b < 256) : GE RF base F SB N ks vM M ed st (fun x => if x = b then v else sta x) (w.setCell ⟨F, 3 + b, none⟩ (.int .i32 v)) := by
  have n1 := tyOf_ne h.tS h.tF (by decide)
  refine ⟨(set_ty h.tF).trans h.tF, ?_, ?_, fun x hx => ?_, (set_ty h.tF).trans h.tS, fun s f hs hf => (set_cell_ne n1).trans (h.cs s f hs hf), set_owns h.oM h.tF (by decide), h.N6, by simpa using h.sz, h.nn, fun o ho => (World.cell?_setCell_other _ _ _ _ (fun z => by simp only [Addr.mk.injEq, true_and, and_true] at z; omega)).trans (h.rF o ho)⟩
  · rw [set_cell h.cS, if_neg (fun z => by simp only [Addr.mk.injEq, true_and, and_true] at z; omega)]
  · rw [set_cell h.cM, if_neg (fun z => by simp only [Addr.mk.injEq, true_and, and_true] at z; omega)]
  · rw [set_cell (h.cA x hx)]
    by_cases e : x = b
    · rw [if_pos (by rw [e]), if_pos e]
    · rw [if_neg (fun z => by simp only [Addr.mk.injEq, true_and, and_true] at z; omega), if_neg e]
/-- behind an append -/
theorem GE.grow (h : GE RF base F SB N ks vM M ed st sta w) {wa : World} (k : Kept (fun j => vM.ownBlock = some j) w wa) (v : Value) (x : Nat × Nat) (ho : wa.ownsRow base 54 2 v (M + 1) (eL ed M ++ [.int .u8 x.1, .int .i32 x.2])) (hn : ∃ gg c, v = .slice (some ⟨gg, 0, none⟩) (M + 1) c) :
    GE RF base F SB N ks v (M + 1) (fun j => if j = M then x else ed j) st sta (wa.setCell ⟨F, 2, none⟩ v) := by
  have e1 := k.block F (tyOf_lt h.tF) (fun e => tyOf_ne h.tF (own_ty h.oM F e) (by decide) rfl)
  have e2 := k.block SB (tyOf_lt h.tS) (fun e => tyOf_ne h.tS (own_ty h.oM SB e) (by decide) rfl)
  have tFa : tyOf wa F = some 36 := (tyOf_congr e1).trans h.tF
  have tSa : tyOf wa SB = some 47 := (tyOf_congr e2).trans h.tS
  have n1 := tyOf_ne tSa tFa (by decide)
  have c := fun o v (hc : w.cell? ⟨F, o, none⟩ = some v) => (World.cell?_of_block (a := ⟨F, o, none⟩) e1).trans hc
  have ee : eL ed M ++ [.int .u8 x.1, .int .i32 x.2] = eL (fun j => if j = M then x else ed j) (M + 1) := by
    have cg : ∀ m, m ≤ M → eL ed m = eL (fun j => if j = M then x else ed j) m := by
      intro m
      induction m with
      | zero => intro _; rfl
      | succ m ih =>
        intro hm
        unfold eL
        rw [ih (by omega)]
        simp only [if_neg (show ¬ m = M by omega)]
    show _ = eL (fun j => if j = M then x else ed j) M ++ [.int .u8 (if M = M then x else ed M).1, .int .i32 (if M = M then x else ed M).2]
    rw [← cg M (Nat.le_refl _), if_pos rfl]
  rw [ee] at ho
  refine ⟨(set_ty tFa).trans tFa, ?_, ?_, fun b hb => ?_, (set_ty tFa).trans tSa, fun s f hs hf => (set_cell_ne n1).trans ((World.cell?_of_block e2).trans (h.cs s f hs hf)), set_owns ho tFa (by decide), h.N6, by simpa using Nat.le_trans h.sz k.size, hn, fun o ho => (World.cell?_setCell_other _ _ _ _ (fun z => by simp only [Addr.mk.injEq, true_and, and_true] at z; omega)).trans ((World.cell?_of_block e1).trans (h.rF o ho))⟩
  · rw [set_cell (c _ _ h.cS), if_neg (by simp)]
  · rw [set_cell (c _ _ h.cM), if_pos rfl]
  · rw [set_cell (c _ _ (h.cA b hb)), if_neg (fun z => by simp only [Addr.mk.injEq, true_and, and_true] at z; omega)]
end

theorem new_cells2 (w2 : World) (a b : Value) (t : TypeId) (j : Nat) (x : Value) (hj : ([a, b] : List Value)[j]? = some x) :
    (w2.alloc (.cells #[a, b] t)).cell? ((⟨w2.heap.size, 0, none⟩ : Addr).add j) = some x := by
  have e2 : (w2.alloc (.cells #[a, b] t)).heap[w2.heap.size]? = some (.cells #[a, b] t) := (MapKept.heap_alloc w2 _).1
  rw [add_plain', Nat.zero_add]
  simp only [World.cell?, e2]
  simpa using hj
/-- what the loop over the edges keeps -/
structure EI (w0 : World) (base F SB B N ks m z i : Nat) (g : Nat → Ed) (st0 : Nat → Nat → Int) (w : World) : Prop where
  out : ∃ (vM : Value) (st : Nat → Nat → Int) (ef et sta : Nat → Nat), GE (fun o => w0.cell? ⟨F, o, none⟩) base F SB N ks vM (i - z) (fun j => ((g (z + j)).b, (g (z + j)).tt)) st sta w ∧ RowE B m g w ∧ PR N z i g ef et ∧ PS z i g sta ∧ (∀ s, s < N → st s 0 = ef s ∧ st s 1 = et s) ∧ (∀ s f, 2 ≤ f → st s f = st0 s f) ∧
    Kept (fun k => k = F ∨ k = SB ∨ (base ≤ k ∧ tyOf w0 k = some 54)) w0 w

set_option maxHeartbeats 4000000 in
set_option maxRecDepth 100000 in
/-- the finder's edges and the start -/
theorem stm13 (base F SB B N ks m cap z : Nat) (g : Nat → Ed) (st0 : Nat → Nat → Int) (w : World) (hm : m ≤ 65536) (hs : SortF Ed.fr 0 m g) (hz : z ≤ m) (hz1 : ∀ j, j < z → (g j).fr = 0) (hz2 : ∀ j, z ≤ j → j < m → (g j).fr ≠ 0) (hg : ∀ j, j < m → (g j).fr < N ∧ (g j).b < 256 ∧ (g j).tt < N) (h : EI w base F SB B N ks m z 0 g st0 w) (Q : Exit → Act → World → Prop) (c0 c1 c2 c3 c4 c5 c6 c7 c8 c11 c12 c13 c14 c15 c16 c17 c18 c19 c20 c21 c22 c23 c24 c25 c26 c27 c28 c29 c30 c31 c32 c33 c34 c35 c36 c37 c38 c39 c40 c41 c42 c43 c44 c45 c46 c47 c48 c49 c50 c51 c52 c53 c54 c55 c56 c57 c58 c59 c60 c61 c62 c63 c64 c65 c66 c67 c68 c69 c70 c71 c72 c73 c74 c75 c76 c77 c78 c79 c80 c81 c82 c83 c84 c85 c86 c87 c88 c89 c90 c91 c92 c93 c94 c95 c96 c97 c98 c99 c100 c101 c102 c103 c104 c105 c106 c107 c108 c109 c110 c111 c112 c113 c114 c115 c116 c117 c118 c119 c120 c121 c122 c123 c124 c125 c126 c127 c128 c129 c130 c131 c132 c133 c134 c135 c136 c137 c138 c139 c140 c141 c142 c143 c144 c145 c146 c147 c148 c149 c150 c151 c152 c153 c154 c155 c156 c157 c158 c159 c160 c161 c162 c163 c164 c165 c166 c167 c168 c169 c170 c171 c172 c173 c174 c175 c176 c177 c178 c179 c180 c181 c182 c183 c184 c185 c186 c187 c188 c189 c190 c191 c192 c193 c194 c195 c196 c197 c198 c199 c200 c201 c202 c203 c204 c205 c206 c207 c208 c209 c210 c211 c212 c213 c214 c215 c216 c217 c218 c219 c220 c221 c222 c223 c224 c225 c226 c227 c228 c229 c230 c231 c232 c233 c234 c235 c236 c237 c238 c239 c240 c241 c242 c243 c244 c245 c246 c247 c248 c249 c250 c251 c252 c253 c254 c255 c256 c257 c258 c259 c260 c261 c262 c263 c264 : Value)
    (hQ : ∀ (u20 u21 u149 u150 u151 u152 u153 u154 u155 u156 u157 u158 u159 u160 u161 u162 u163 u164 u165 u166 u167 u168 u169 u170 u171 u172 u173 u174 u175 u176 u177 u178 u179 u180 u181 u182 u183 u184 u185 u186 u187 u188 u189 u190 u191 u192 u193 u194 u195 u196 u197 : Value)  (w' : World), EI w base F SB B N ks m z m g st0 w' → Q .normal ⟨#[c0, c1, c2, c3, c4, c5, c6, c7, c8, .pointer (some ⟨F, 0, none⟩), .slice (some ⟨B, 0, none⟩) m cap, c11, c12, c13, c14, c15, c16, c17, c18, c19, u20, u21, c22, c23, c24, c25, c26, c27, c28, c29, c30, c31, c32, c33, c34, c35, c36, c37, c38, c39, c40, c41, c42, c43, c44, c45, c46, c47, c48, c49, c50, c51, c52, c53, c54, c55, c56, c57, c58, c59, c60, c61, c62, c63, c64, c65, c66, c67, c68, c69, c70, c71, c72, c73, c74, c75, c76, c77, c78, c79, c80, c81, c82, c83, c84, c85, c86, c87, c88, c89, c90, c91, c92, c93, c94, c95, c96, c97, c98, c99, c100, c101, c102, c103, c104, c105, c106, c107, c108, c109, c110, c111, c112, c113, c114, c115, c116, c117, c118, c119, c120, c121, c122, c123, c124, c125, c126, c127, c128, c129, c130, c131, c132, c133, c134, c135, c136, c137, c138, c139, c140, c141, c142, c143, c144, c145, c146, c147, c148, u149, u150, u151, u152, u153, u154, u155, u156, u157, u158, u159, u160, u161, u162, u163, u164, u165, u166, u167, u168, u169, u170, u171, u172, u173, u174, u175, u176, u177, u178, u179, u180, u181, u182, u183, u184, u185, u186, u187, u188, u189, u190, u191, u192, u193, u194, u195, u196, u197, c198, c199, c200, c201, c202, c203, c204, c205, c206, c207, c208, c209, c210, c211, c212, c213, c214, c215, c216, c217, c218, c219, c220, c221, c222, c223, c224, c225, c226, c227, c228, c229, c230, c231, c232, c233, c234, c235, c236, c237, c238, c239, c240, c241, c242, c243, c244, c245, c246, c247, c248, c249, c250, c251, c252, c253, c254, c255, c256, c257, c258, c259, c260, c261, c262, c263, c264], []⟩ w') :
    Code.wp Yba.prog (stm 13) Q ⟨#[c0, c1, c2, c3, c4, c5, c6, c7, c8, .pointer (some ⟨F, 0, none⟩), .slice (some ⟨B, 0, none⟩) m cap, c11, c12, c13, c14, c15, c16, c17, c18, c19, c20, c21, c22, c23, c24, c25, c26, c27, c28, c29, c30, c31, c32, c33, c34, c35, c36, c37, c38, c39, c40, c41, c42, c43, c44, c45, c46, c47, c48, c49, c50, c51, c52, c53, c54, c55, c56, c57, c58, c59, c60, c61, c62, c63, c64, c65, c66, c67, c68, c69, c70, c71, c72, c73, c74, c75, c76, c77, c78, c79, c80, c81, c82, c83, c84, c85, c86, c87, c88, c89, c90, c91, c92, c93, c94, c95, c96, c97, c98, c99, c100, c101, c102, c103, c104, c105, c106, c107, c108, c109, c110, c111, c112, c113, c114, c115, c116, c117, c118, c119, c120, c121, c122, c123, c124, c125, c126, c127, c128, c129, c130, c131, c132, c133, c134, c135, c136, c137, c138, c139, c140, c141, c142, c143, c144, c145, c146, c147, c148, c149, c150, c151, c152, c153, c154, c155, c156, c157, c158, c159, c160, c161, c162, c163, c164, c165, c166, c167, c168, c169, c170, c171, c172, c173, c174, c175, c176, c177, c178, c179, c180, c181, c182, c183, c184, c185, c186, c187, c188, c189, c190, c191, c192, c193, c194, c195, c196, c197, c198, c199, c200, c201, c202, c203, c204, c205, c206, c207, c208, c209, c210, c211, c212, c213, c214, c215, c216, c217, c218, c219, c220, c221, c222, c223, c224, c225, c226, c227, c228, c229, c230, c231, c232, c233, c234, c235, c236, c237, c238, c239, c240, c241, c242, c243, c244, c245, c246, c247, c248, c249, c250, c251, c252, c253, c254, c255, c256, c257, c258, c259, c260, c261, c262, c263, c264], []⟩ w := by
  have hmI : (m : Int) ≤ 65536 := by omega
  have HQQ : Aside _ := hQ
  have HG : Aside _ := hg
  have HZ1 : Aside _ := hz1
  have HZ2 : Aside _ := hz2
  obtain ⟨i54, x0, x1, x2, x3⟩ := info_parts Yba.info54
  clear hQ hg hz1 hz2
  conv => arg 2; whnf
  go_wp2_with fail
  go_loopw [20, 21, 151] (fun _ _ x wr => ∃ i : Nat, i ≤ m ∧ x = .int .i64 i ∧ EI w base F SB B N ks m z i g st0 wr) (fun _ _ x _ => 65536 - (intOf x).toNat)
  case atStart => exact ⟨0, by omega, rfl, h⟩
  case round =>
    clear h
    obtain ⟨i, hi, rfl, vM, st, ef, et, sta, ge, hB, hpr, hps, hst, hst2, hk⟩ := hrel
    by_cases hlt : i < m
    · have hI : (i : Int) < (m : Int) := by omega
      have hI0 : (0 : Int) ≤ (i : Int) := by omega
      obtain ⟨b0, b1, b2⟩ := hB.2 i hlt
      obtain ⟨g1, g2, g3⟩ := HG.out i hlt
      have gN := ge.N6
      have kal : ∀ (x : World) (o : Obj), Kept (fun _ => False) x (x.alloc o) := fun x o => Kept.of_below ((Below.refl _ x).alloc (Nat.le_refl _) o)
      have gea : ∀ o, GE (fun o => w.cell? ⟨F, o, none⟩) base F SB N ks vM (i - z) (fun j => ((g (z + j)).b, (g (z + j)).tt)) st sta (wr.alloc o) := fun o => ge.kept (kal wr o) (fun x => x) (fun x => x) (fun _ _ x => x)
      by_cases h0 : (g i).fr = 0
      · have hiz : i < z := by
          refine Nat.lt_of_not_le fun hge => ?_
          exact HZ2.out i hge hlt h0
        have cF : ∀ o, (wr.alloc o).cell? ⟨F, 3 + (g i).b, none⟩ = some (.int .i32 (sta (g i).b)) := fun o => (gea o).cA _ g2
        have fF : ∀ o, (wr.alloc o).frozen? ⟨F, 3 + (g i).b, none⟩ = false := fun o => tyOf_frozen (gea o).tF _
        have hbI : ((g i).b : Int) < 256 := by omega
        have hnF : F ≠ wr.heap.size := Nat.ne_of_lt (tyOf_lt ge.tF)
        have fin : ∀ o, EI w base F SB B N ks m z (i + 1) g st0 ((wr.alloc o).setCell ⟨F, 3 + (g i).b, none⟩ (.int .i32 (g i).tt)) := fun o => by
          have ge2 := (gea o).setA (g i).b (g i).tt g2
          have hBa : RowE B m g (wr.alloc o) := hB.congr ((kal wr o).block B (tyOf_lt hB.1) (fun x => x))
          refine ⟨vM, st, ef, et, _, by rw [show i + 1 - z = i - z from by omega]; exact ge2, hBa.congr (set_other (tyOf_ne hBa.1 (gea o).tF (by decide))), hpr.skip h0, hps.put hiz, hst, hst2, ?_⟩
          exact (hk.trans ((kal wr o).weak (fun _ x => x.elim))).setCell (.inl rfl) _
        have HF : Aside _ := fin
        rw [h0] at b0
        clear hpr hps hst hst2 hk ge hB gea kal fin
        go_wp2_with fail
        go_roundw
        case rel => exact ⟨i + 1, by omega, by go_num, HF.out _⟩
        case measure => simp [intOf]; omega
      · have hiz : z ≤ i := by
          refine Nat.le_of_not_lt fun hl => ?_
          exact h0 (HZ1.out i hl)
        obtain ⟨ad, cp, rfl⟩ : ∃ ad cp, vM = .slice ad (i - z) cp := by
          rcases ge.oM.2 with ⟨h1, h2⟩ | ⟨gg, cap, cur, h1, _⟩
          · exact ⟨none, 0, by rw [h1, h2]⟩
          · exact ⟨_, cap, h1⟩
        obtain ⟨M, hM⟩ : ∃ M, i - z = M := ⟨_, rfl⟩
        rw [hM] at ge gea
        obtain ⟨s, hs0⟩ : ∃ s, (g i).fr = s := ⟨_, rfl⟩
        rw [hs0] at b0 h0 g1
        have hsI : (s : Int) < (N : Int) := by omega
        have hs00 : (0 : Int) ≤ (s : Int) := by omega
        have hs65 : (s : Int) < 65537 := by omega
        have hsne : ((s : Int) == 0) = false := by simp; omega
        have hMI : (M : Int) ≤ 65536 := by omega
        obtain ⟨e0, e1⟩ := hst s g1
        have cF1 : ∀ o, (wr.alloc o).cell? ⟨F, 1, none⟩ = some (.slice (some ⟨SB, 0, none⟩) N ks) := fun o => (gea o).cS
        have cF2 : ∀ o, (wr.alloc o).cell? ⟨F, 2, none⟩ = some (.slice ad M cp) := fun o => (gea o).cM
        have cS1 : ∀ o, (wr.alloc o).cell? ⟨SB, s * 5 + 1, none⟩ = some (.int .i32 (et s)) := fun o => ((gea o).cs s 1 g1 (by omega)).trans (by rw [e1])
        have cS0 : ∀ o, (wr.alloc o).cell? ⟨SB, s * 5, none⟩ = some (.int .i32 (ef s)) := fun o => ((gea o).cs s 0 g1 (by omega)).trans (by rw [e0])
        have fS : ∀ o p, (wr.alloc o).frozen? ⟨SB, p, none⟩ = false := fun o p => tyOf_frozen (gea o).tS p
        have fF : ∀ o p, (wr.alloc o).frozen? ⟨F, p, none⟩ = false := fun o p => tyOf_frozen (gea o).tF p
        by_cases het : et s = 0
        · have hete : ((et s : Int) == 0) = true := by simp; omega
          clear e0 e1
          have hge : GE (fun o => w.cell? ⟨F, o, none⟩) base F SB N ks (.slice ad M cp) M (fun j => ((g (z + j)).b, (g (z + j)).tt)) (upS st s 0 M) sta ((wr.alloc (.cells #[.int .i32 s, .int .u8 (g i).b, .int .i32 (g i).tt] 56)).setCell ⟨SB, s * 5, none⟩ (.int .i32 M)) := (gea _).setS s 0 (by omega) M
          go_wp2_with (at_builtin; refine wpList_append2 rfl (.tmp 184) (.tmp 187) 31 rfl base 54 i54 (.agg #[.int .u8 0, .int .i32 0]) 2 8 Yba.underlying31 x0 x1 x2 x3 rfl (by decide) _ M (eL (fun j => ((g (z + j)).b, (g (z + j)).tt)) M) rfl (hge.oM.alloc _) ⟨wr.heap.size + 1, 0, none⟩ 1 1 [.int .u8 (g i).b, .int .i32 (g i).tt] rfl rfl ?c1 ?c2 ?c3 ?c4 ?c5 (by decide) ?_)
          case c1 =>
            intro j x hj
            have h := new_cells2 ((wr.alloc (.cells #[.int .i32 s, .int .u8 (g i).b, .int .i32 (g i).tt] 56)).setCell ⟨SB, s * 5, none⟩ (.int .i32 M)) (.int .u8 (g i).b) (.int .i32 (g i).tt) 54 j x hj
            rwa [show ((wr.alloc (.cells #[.int .i32 s, .int .u8 (g i).b, .int .i32 (g i).tt] 56)).setCell ⟨SB, s * 5, none⟩ (.int .i32 M)).heap.size = wr.heap.size + 1 from by simp] at h
          case c2 =>
            intro x hx
            simp only [List.mem_cons, List.not_mem_nil, or_false] at hx
            rcases hx with rfl | rfl <;> rfl
          case c3 => unfold maxLen; omega
          case c4 => omega
          case c5 => have := hge.sz; simp at this ⊢; omega
          intro g' cap' wa ho' hg' _
          have ka : Kept (fun j => (Value.slice ad M cp).ownBlock = some j) ((wr.alloc (.cells #[.int .i32 s, .int .u8 (g i).b, .int .i32 (g i).tt] 56)).setCell ⟨SB, s * 5, none⟩ (.int .i32 M)) wa := ⟨hg'.os, hg'.tape, hg'.output, Nat.le_trans (by simp) hg'.size, fun j hj hS => (hg'.block j (by simp at hj ⊢; omega) (fun e => hS e.symm)).trans (Below.heap_alloc _ _ j hj)⟩
          have ge3 := hge.grow ka _ ((g i).b, (g i).tt) ho' ⟨_, _, rfl⟩
          have ge4 := ge3.setS s 1 (by omega) ((M : Int) + 1)
          have eF := ka.block F (tyOf_lt hge.tF) (fun e => tyOf_ne hge.tF (own_ty hge.oM F e) (by decide) rfl)
          have eS := ka.block SB (tyOf_lt hge.tS) (fun e => tyOf_ne hge.tS (own_ty hge.oM SB e) (by decide) rfl)
          have aF2 := (World.cell?_of_block (a := ⟨F, 2, none⟩) eF).trans hge.cM
          have aS1 := (World.cell?_of_block (a := ⟨SB, s * 5 + 1, none⟩) eS).trans (hge.cs s 1 g1 (by omega))
          have afF := tyOf_frozen ((tyOf_congr eF).trans hge.tF) 2
          have afS := tyOf_frozen ((tyOf_congr eS).trans hge.tS) (s * 5 + 1)
          have hFS : SB ≠ F := tyOf_ne hge.tS hge.tF (by decide)
          have hBa : RowE B m g wa := by
            have hW : RowE B m g ((wr.alloc (.cells #[.int .i32 s, .int .u8 (g i).b, .int .i32 (g i).tt] 56)).setCell ⟨SB, s * 5, none⟩ (.int .i32 M)) := (hB.congr ((kal wr (.cells #[.int .i32 s, .int .u8 (g i).b, .int .i32 (g i).tt] 56)).block B (tyOf_lt hB.1) (fun x => x))).congr (set_other (tyOf_ne ((tyOf_congr ((kal wr (.cells #[.int .i32 s, .int .u8 (g i).b, .int .i32 (g i).tt] 56)).block B (tyOf_lt hB.1) (fun x => x))).trans hB.1) (gea (.cells #[.int .i32 s, .int .u8 (g i).b, .int .i32 (g i).tt] 56)).tS (by decide)))
            exact hW.congr (ka.block B (tyOf_lt hW.1) (fun e => tyOf_ne hW.1 (own_ty hge.oM B e) (by decide) rfl))
          have hB4 : RowE B m g ((wa.setCell ⟨F, 2, none⟩ (.slice (some ⟨g', 0, none⟩) (M + 1) cap')).setCell ⟨SB, s * 5 + 1, none⟩ (.int .i32 ((M : Int) + 1))) := (hBa.congr (set_other (tyOf_ne hBa.1 ((tyOf_congr eF).trans hge.tF) (by decide)))).congr (set_other (tyOf_ne hBa.1 ((tyOf_congr eS).trans hge.tS) (by decide)))
          have kW : Kept (fun k => k = F ∨ k = SB ∨ (base ≤ k ∧ tyOf w k = some 54)) w ((wr.alloc (.cells #[.int .i32 s, .int .u8 (g i).b, .int .i32 (g i).tt] 56)).setCell ⟨SB, s * 5, none⟩ (.int .i32 M)) := (hk.trans ((kal wr _).weak (fun _ x => x.elim))).setCell (.inr (.inl rfl)) _
          have k4 : Kept (fun k => k = F ∨ k = SB ∨ (base ≤ k ∧ tyOf w k = some 54)) w ((wa.setCell ⟨F, 2, none⟩ (.slice (some ⟨g', 0, none⟩) (M + 1) cap')).setCell ⟨SB, s * 5 + 1, none⟩ (.int .i32 ((M : Int) + 1))) := by
            have k5 : Kept (fun k => k = F ∨ k = SB ∨ (base ≤ k ∧ tyOf w k = some 54)) w wa := ⟨ka.os.trans kW.os, ka.tape.trans kW.tape, ka.output.trans kW.output, Nat.le_trans kW.size ka.size, fun k hk1 hS => by
              have e5 := kW.block k hk1 hS
              refine (ka.block k (Nat.lt_of_lt_of_le hk1 kW.size) (fun e => hS (.inr (.inr ⟨own_le hge.oM k e, ?_⟩)))).trans e5
              rw [← tyOf_congr e5]; exact own_ty hge.oM k e⟩
            exact (k5.setCell (.inl rfl) _).setCell (.inr (.inl rfl)) _
          have fin : EI w base F SB B N ks m z (i + 1) g st0 ((wa.setCell ⟨F, 2, none⟩ (.slice (some ⟨g', 0, none⟩) (M + 1) cap')).setCell ⟨SB, s * 5 + 1, none⟩ (.int .i32 ((M : Int) + 1))) := by
            refine ⟨.slice (some ⟨g', 0, none⟩) (M + 1) cap', upS (upS st s 0 M) s 1 ((M : Int) + 1), _, _, sta, ?_, hB4, hpr.put hs hlt hiz, hps.skip hiz, ?_, ?_, k4⟩
            · rw [show i + 1 - z = M + 1 from by omega]
              have ee : (fun j => if j = M then ((g i).b, (g i).tt) else ((g (z + j)).b, (g (z + j)).tt)) = (fun j => ((g (z + j)).b, (g (z + j)).tt)) := by
                funext j
                by_cases c : j = M
                · rw [if_pos c, show z + j = i from by omega]
                · rw [if_neg c]
              rw [ee] at ge4
              exact ge4
            · intro x hx
              rw [hs0]
              have hx2 := hst x hx
              unfold upS
              by_cases c : x = s
              · subst c
                obtain ⟨y0, y1⟩ := hx2
                have q1 : i + 1 - z = M + 1 := by omega
                simp [het, hM, q1]
              · simp only [c, false_and, if_false]; exact hx2
            · intro x f hf
              unfold upS
              rw [if_neg (fun y => by omega), if_neg (fun y => by omega)]; exact hst2 x f hf
          clear ge3 ge4 hB4 k4 kW hBa eF eS ka ho' hg' hge
          go_wp2_with fail
          go_roundw
          case rel => exact ⟨i + 1, by omega, by go_num, fin⟩
          case measure => simp [intOf]; omega
        · have hete : ((et s : Int) == 0) = false := by simp; omega
          clear e0 e1
          have hge : GE (fun o => w.cell? ⟨F, o, none⟩) base F SB N ks (.slice ad M cp) M (fun j => ((g (z + j)).b, (g (z + j)).tt)) st sta (wr.alloc (.cells #[.int .i32 s, .int .u8 (g i).b, .int .i32 (g i).tt] 56)) := gea _
          go_wp2_with (at_builtin; refine wpList_append2 rfl (.tmp 184) (.tmp 187) 31 rfl base 54 i54 (.agg #[.int .u8 0, .int .i32 0]) 2 8 Yba.underlying31 x0 x1 x2 x3 rfl (by decide) _ M (eL (fun j => ((g (z + j)).b, (g (z + j)).tt)) M) rfl (hge.oM.alloc _) ⟨wr.heap.size + 1, 0, none⟩ 1 1 [.int .u8 (g i).b, .int .i32 (g i).tt] rfl rfl ?c1 ?c2 ?c3 ?c4 ?c5 (by decide) ?_)
          case c1 =>
            intro j x hj
            have h := new_cells2 (wr.alloc (.cells #[.int .i32 s, .int .u8 (g i).b, .int .i32 (g i).tt] 56)) (.int .u8 (g i).b) (.int .i32 (g i).tt) 54 j x hj
            rwa [show (wr.alloc (.cells #[.int .i32 s, .int .u8 (g i).b, .int .i32 (g i).tt] 56)).heap.size = wr.heap.size + 1 from by simp] at h
          case c2 =>
            intro x hx
            simp only [List.mem_cons, List.not_mem_nil, or_false] at hx
            rcases hx with rfl | rfl <;> rfl
          case c3 => unfold maxLen; omega
          case c4 => omega
          case c5 => have := hge.sz; simp at this ⊢; omega
          intro g' cap' wa ho' hg' _
          have ka : Kept (fun j => (Value.slice ad M cp).ownBlock = some j) (wr.alloc (.cells #[.int .i32 s, .int .u8 (g i).b, .int .i32 (g i).tt] 56)) wa := ⟨hg'.os, hg'.tape, hg'.output, Nat.le_trans (by simp) hg'.size, fun j hj hS => (hg'.block j (by simp at hj ⊢; omega) (fun e => hS e.symm)).trans (Below.heap_alloc _ _ j hj)⟩
          have ge3 := hge.grow ka _ ((g i).b, (g i).tt) ho' ⟨_, _, rfl⟩
          have ge4 := ge3.setS s 1 (by omega) ((M : Int) + 1)
          have eF := ka.block F (tyOf_lt hge.tF) (fun e => tyOf_ne hge.tF (own_ty hge.oM F e) (by decide) rfl)
          have eS := ka.block SB (tyOf_lt hge.tS) (fun e => tyOf_ne hge.tS (own_ty hge.oM SB e) (by decide) rfl)
          have aF2 := (World.cell?_of_block (a := ⟨F, 2, none⟩) eF).trans hge.cM
          have aS1 := (World.cell?_of_block (a := ⟨SB, s * 5 + 1, none⟩) eS).trans (hge.cs s 1 g1 (by omega))
          have afF := tyOf_frozen ((tyOf_congr eF).trans hge.tF) 2
          have afS := tyOf_frozen ((tyOf_congr eS).trans hge.tS) (s * 5 + 1)
          have hFS : SB ≠ F := tyOf_ne hge.tS hge.tF (by decide)
          have hBa : RowE B m g wa := by
            have hW : RowE B m g (wr.alloc (.cells #[.int .i32 s, .int .u8 (g i).b, .int .i32 (g i).tt] 56)) := hB.congr ((kal wr _).block B (tyOf_lt hB.1) (fun x => x))
            exact hW.congr (ka.block B (tyOf_lt hW.1) (fun e => tyOf_ne hW.1 (own_ty hge.oM B e) (by decide) rfl))
          have hB4 : RowE B m g ((wa.setCell ⟨F, 2, none⟩ (.slice (some ⟨g', 0, none⟩) (M + 1) cap')).setCell ⟨SB, s * 5 + 1, none⟩ (.int .i32 ((M : Int) + 1))) := (hBa.congr (set_other (tyOf_ne hBa.1 ((tyOf_congr eF).trans hge.tF) (by decide)))).congr (set_other (tyOf_ne hBa.1 ((tyOf_congr eS).trans hge.tS) (by decide)))
          have kW : Kept (fun k => k = F ∨ k = SB ∨ (base ≤ k ∧ tyOf w k = some 54)) w (wr.alloc (.cells #[.int .i32 s, .int .u8 (g i).b, .int .i32 (g i).tt] 56)) := hk.trans ((kal wr _).weak (fun _ x => x.elim))
          have k4 : Kept (fun k => k = F ∨ k = SB ∨ (base ≤ k ∧ tyOf w k = some 54)) w ((wa.setCell ⟨F, 2, none⟩ (.slice (some ⟨g', 0, none⟩) (M + 1) cap')).setCell ⟨SB, s * 5 + 1, none⟩ (.int .i32 ((M : Int) + 1))) := by
            have k5 : Kept (fun k => k = F ∨ k = SB ∨ (base ≤ k ∧ tyOf w k = some 54)) w wa := ⟨ka.os.trans kW.os, ka.tape.trans kW.tape, ka.output.trans kW.output, Nat.le_trans kW.size ka.size, fun k hk1 hS => by
              have e5 := kW.block k hk1 hS
              refine (ka.block k (Nat.lt_of_lt_of_le hk1 kW.size) (fun e => hS (.inr (.inr ⟨own_le hge.oM k e, ?_⟩)))).trans e5
              rw [← tyOf_congr e5]; exact own_ty hge.oM k e⟩
            exact (k5.setCell (.inl rfl) _).setCell (.inr (.inl rfl)) _
          have fin : EI w base F SB B N ks m z (i + 1) g st0 ((wa.setCell ⟨F, 2, none⟩ (.slice (some ⟨g', 0, none⟩) (M + 1) cap')).setCell ⟨SB, s * 5 + 1, none⟩ (.int .i32 ((M : Int) + 1))) := by
            refine ⟨.slice (some ⟨g', 0, none⟩) (M + 1) cap', upS st s 1 ((M : Int) + 1), _, _, sta, ?_, hB4, hpr.put hs hlt hiz, hps.skip hiz, ?_, ?_, k4⟩
            · rw [show i + 1 - z = M + 1 from by omega]
              have ee : (fun j => if j = M then ((g i).b, (g i).tt) else ((g (z + j)).b, (g (z + j)).tt)) = (fun j => ((g (z + j)).b, (g (z + j)).tt)) := by
                funext j
                by_cases c : j = M
                · rw [if_pos c, show z + j = i from by omega]
                · rw [if_neg c]
              rw [ee] at ge4
              exact ge4
            · intro x hx
              rw [hs0]
              have hx2 := hst x hx
              unfold upS
              by_cases c : x = s
              · subst c
                obtain ⟨y0, y1⟩ := hx2
                have q1 : i + 1 - z = M + 1 := by omega
                simp [het, y0, q1]
              · simp only [c, false_and, if_false]; exact hx2
            · intro x f hf
              unfold upS
              rw [if_neg (fun y => by omega)]; exact hst2 x f hf
          clear ge3 ge4 hB4 k4 kW hBa eF eS ka ho' hg' hge
          go_wp2_with fail
          go_roundw
          case rel => exact ⟨i + 1, by omega, by go_num, fin⟩
          case measure => simp [intOf]; omega
    · have e : i = m := by omega
      subst e
      have fin : EI w base F SB B N ks i z i g st0 wr := ⟨vM, st, ef, et, sta, ge, hB, hpr, hps, hst, hst2, hk⟩
      clear ge hB hpr hps hst hst2 hk
      go_wp2_with fail
      have hQ := HQQ.out
      exact hQ _ _ _ _ _ _ _ _ _ _ _ _ _ _ _ _ _ _ _ _ _ _ _ _ _ _ _ _ _ _ _ _ _ _ _ _ _ _ _ _ _ _ _ _ _ _ _ _ _ _ _ wr fin
end Go.Proofs.Ybulkckss
