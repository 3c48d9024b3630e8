import Derived.Test.YbulkckssSt8
import Derived.Test.YbulkckssD5
namespace Go.Proofs.Ybulkckss
open Go.RowKit Go.Lib

/-- the finder's cells by value -/
def fcv (tv vS vE vD : Value) (sta cl : Nat → Nat) (nc o : Nat) : Value :=
  if o = 0 then tv else if o = 1 then vS else if o = 2 then vE else if o < 259 then .int .i32 (sta (o - 3)) else if o = 259 then vD else if o < 516 then .int .u16 (cl (o - 260)) else .int .i64 nc
def fcs (tv vS vE vD : Value) (sta cl : Nat → Nat) (nc : Nat) : List Value := (List.range 517).map (fcv tv vS vE vD sta cl nc)
theorem fcs_len (tv vS vE vD : Value) (sta cl : Nat → Nat) (nc : Nat) : (fcs tv vS vE vD sta cl nc).length = 517 := by simp [fcs]
theorem fcs_get (tv vS vE vD : Value) (sta cl : Nat → Nat) (nc : Nat) {o : Nat} (h : o < 517) : (fcs tv vS vE vD sta cl nc)[o]? = some (fcv tv vS vE vD sta cl nc o) := by simp [fcs, List.getElem?_range h]
theorem fcs_one (a1 : Option Addr) (n1 c1 : Nat) (vS vE vD : Value) (sta cl : Nat → Nat) (nc : Nat) (hS : vS.oneCell' = true) (hE : vE.oneCell' = true) (hD : vD.oneCell' = true) : ∀ v ∈ fcs (.slice a1 n1 c1) vS vE vD sta cl nc, v.oneCell' = true := fun v hv => by
  obtain ⟨o, _, rfl⟩ := List.mem_map.1 hv
  unfold fcv
  (repeat' split) <;> first | rfl | assumption
/-- the memory of the states and the edges -/
structure SE (SB EB N M ke : Nat) (st : Nat → Nat → Int) (ed : Nat → Nat × Nat) (w : World) : Prop where
  tS : tyOf w SB = some 47
  cs : ∀ s f, s < N → f < 5 → w.cell? ⟨SB, s * 5 + f, none⟩ = some (.int .i32 (st s f))
  tE : tyOf w EB = some 54
  ce : ∀ j, j < M → w.cell? ⟨EB, j * 2, none⟩ = some (.int .u8 (ed j).1) ∧ w.cell? ⟨EB, j * 2 + 1, none⟩ = some (.int .i32 (ed j).2)
  mc : M ≤ ke
  N6 : N ≤ 65537
  M6 : M ≤ 65536
section
variable {F SB EB N M ks ke nc : Nat} {st : Nat → Nat → Int} {ed : Nat → Nat × Nat} {sta cl : Nat → Nat} {w w' : World} {tv vD : Value}
theorem FM.se (h : FM F SB EB N M ks ke st ed sta w) : SE SB EB N M ke st ed w := ⟨h.tS, h.cs, h.tE, h.ce, h.mc, h.N6, h.M6⟩
theorem SE.kept {S : Nat → Prop} (h : SE SB EB N M ke st ed w) (k : Kept S w w') (h1 : ¬ S SB) (h2 : ¬ S EB) : SE SB EB N M ke st ed w' := by
  have e1 := k.block SB (tyOf_lt h.tS) h1
  have e2 := k.block EB (tyOf_lt h.tE) h2
  exact ⟨(tyOf_congr e1).trans h.tS, fun s f hs hf => (World.cell?_of_block e1).trans (h.cs s f hs hf), (tyOf_congr e2).trans h.tE, fun j hj => ⟨(World.cell?_of_block e2).trans (h.ce j hj).1, (World.cell?_of_block e2).trans (h.ce j hj).2⟩, h.mc, h.N6, h.M6⟩
/-- a variable that holds the finder -/
def Holds (F : Nat) (cs : List Value) (w : World) : Prop := tyOf w F = some 36 ∧ w.rangeAt F 0 cs
theorem Holds.at (h : Holds F (fcs tv (.slice (some ⟨SB, 0, none⟩) N ks) (.slice (some ⟨EB, 0, none⟩) M ke) vD sta cl nc) w) {o : Nat} (ho : o < 517) : w.cell? ⟨F, o, none⟩ = some (fcv tv (.slice (some ⟨SB, 0, none⟩) N ks) (.slice (some ⟨EB, 0, none⟩) M ke) vD sta cl nc o) := by
  have := h.2 o _ (fcs_get _ _ _ _ _ _ _ ho)
  rwa [Nat.zero_add] at this
theorem Holds.fm (h : Holds F (fcs tv (.slice (some ⟨SB, 0, none⟩) N ks) (.slice (some ⟨EB, 0, none⟩) M ke) vD sta cl nc) w) (s : SE SB EB N M ke st ed w) : FM F SB EB N M ks ke st ed sta w :=
  ⟨h.1, h.at (o := 1) (by omega), h.at (o := 2) (by omega), fun b hb => by
    rw [h.at (o := 3 + b) (by omega)]
    unfold fcv
    rw [if_neg (by omega), if_neg (by omega), if_neg (by omega), if_pos (by omega), show 3 + b - 3 = b from by omega], s.tS, s.cs, s.tE, s.ce, s.mc, s.N6, s.M6⟩
theorem Holds.cD (h : Holds F (fcs tv (.slice (some ⟨SB, 0, none⟩) N ks) (.slice (some ⟨EB, 0, none⟩) M ke) vD sta cl nc) w) : w.cell? ⟨F, 259, none⟩ = some vD := h.at (o := 259) (by omega)
theorem Holds.cN (h : Holds F (fcs tv (.slice (some ⟨SB, 0, none⟩) N ks) (.slice (some ⟨EB, 0, none⟩) M ke) vD sta cl nc) w) : w.cell? ⟨F, 516, none⟩ = some (.int .i64 nc) := h.at (o := 516) (by omega)
theorem Holds.cC (h : Holds F (fcs tv (.slice (some ⟨SB, 0, none⟩) N ks) (.slice (some ⟨EB, 0, none⟩) M ke) vD sta cl nc) w) {b : Nat} (hb : b < 256) : w.cell? ⟨F, 260 + b, none⟩ = some (.int .u16 (cl b)) := by
  rw [h.at (o := 260 + b) (by omega)]
  unfold fcv
  rw [if_neg (by omega), if_neg (by omega), if_neg (by omega), if_neg (by omega), if_neg (by omega), if_pos (by omega), show 260 + b - 260 = b from by omega]
theorem DOut.range {wd : Nat → List Nat} {w0 : World} (h : DOut F SB EB N M ks ke st ed sta wd cl nc vD w0 w) : ∃ a1 n1 c1, w.rangeAt F 0 (fcs (.slice a1 n1 c1) (.slice (some ⟨SB, 0, none⟩) N ks) (.slice (some ⟨EB, 0, none⟩) M ke) vD sta cl nc) := by
  obtain ⟨a1, n1, c1, h0⟩ := h.c0
  refine ⟨a1, n1, c1, fun j v hj => ?_⟩
  have hl := (List.getElem?_eq_some_iff.1 hj).1
  rw [fcs_len] at hl
  rw [fcs_get _ _ _ _ _ _ _ hl] at hj
  rw [Nat.zero_add, ← hj]
  unfold fcv
  by_cases c0 : j = 0
  · rw [if_pos c0, c0]; exact h0
  rw [if_neg c0]
  by_cases c1 : j = 1
  · rw [if_pos c1, c1]; exact h.fm.cS
  rw [if_neg c1]
  by_cases c2 : j = 2
  · rw [if_pos c2, c2]; exact h.fm.cE
  rw [if_neg c2]
  by_cases c3 : j < 259
  · rw [if_pos c3]
    have := h.fm.cA (j - 3) (by omega)
    rwa [show 3 + (j - 3) = j from by omega] at this
  rw [if_neg c3]
  by_cases c4 : j = 259
  · rw [if_pos c4, c4]; exact h.cD
  rw [if_neg c4]
  by_cases c5 : j < 516
  · rw [if_pos c5]
    have := h.cC (j - 260) (by omega)
    rwa [show 260 + (j - 260) = j from by omega] at this
  · rw [if_neg c5, show j = 516 from by omega]; exact h.cN
end
theorem results_cell_mid {P : Program} {fn : Func} {p : Tmp} {ty : TypeId} (h : fn.results = #[.cell p ty]) (tmps : Array Value) (w : World) (g : Nat) (cs : List Value) (d : TypeDesc)
    (hp : tmps.getD p undef = .pointer (some ⟨g, 0, none⟩)) (hg : w.rangeAt g 0 cs) (hu : P.underlying ty = some d) (hd : d.isRow = true) (hi : (P.info? ty).map (·.size) = some cs.length) :
    (results fn tmps).run P w = .ok (.agg cs.toArray) w := by
  have hp' : tmps[p]?.getD undef = .pointer (some ⟨g, 0, none⟩) := by simpa using hp
  simp [results, h, hp', asAddr, run_loadVar_mid w g 0 ty cs d hg hu hd hi]
theorem size36b : (Yba.prog.info? 36).map (·.size) = some 517 := by
  obtain ⟨i, hi, hp⟩ := Option.map_eq_some_iff.1 Yba.info36
  simp only [Prod.mk.injEq] at hp
  rw [hi]; exact congrArg some hp.2

set_option maxHeartbeats 4000000 in
set_option maxRecDepth 100000 in
/-- makeDense -/
theorem stm17 (F : Nat) (v : Value) (R : World → Prop) (w : World) (C : Calls Yba.prog 22 #[.pointer (some ⟨F, 0, none⟩), v] w fun e w' => e = .returned (.tuple #[]) ∧ R w') (Q : Exit → Act → World → Prop) (c0 c1 c2 c3 c4 c5 c6 c7 c8 c10 c11 c12 c13 c14 c15 c16 c17 c18 c19 c20 c21 c23 c24 c25 c26 c27 c28 c29 c30 c31 c32 c33 c34 c35 c36 c37 c38 c39 c40 c41 c42 c43 c44 c45 c46 c47 c48 c49 c50 c51 c52 c53 c54 c55 c56 c57 c58 c59 c60 c61 c62 c63 c64 c65 c66 c67 c68 c69 c70 c71 c72 c73 c74 c75 c76 c77 c78 c79 c80 c81 c82 c83 c84 c85 c86 c87 c88 c89 c90 c91 c92 c93 c94 c95 c96 c97 c98 c99 c100 c101 c102 c103 c104 c105 c106 c107 c108 c109 c110 c111 c112 c113 c114 c115 c116 c117 c118 c119 c120 c121 c122 c123 c124 c125 c126 c127 c128 c129 c130 c131 c132 c133 c134 c135 c136 c137 c138 c139 c140 c141 c142 c143 c144 c145 c146 c147 c148 c149 c150 c151 c152 c153 c154 c155 c156 c157 c158 c159 c160 c161 c162 c163 c164 c165 c166 c167 c168 c169 c170 c171 c172 c173 c174 c175 c176 c177 c178 c179 c180 c181 c182 c183 c184 c185 c186 c187 c188 c189 c190 c191 c192 c193 c194 c195 c196 c197 c198 c199 c200 c201 c202 c203 c204 c205 c206 c207 c208 c209 c210 c211 c212 c213 c214 c215 c216 c217 c218 c219 c220 c221 c222 c223 c224 c225 c226 c227 c228 c229 c230 c231 c232 c233 c234 c235 c236 c237 c238 c239 c240 c241 c242 c243 c244 c245 c246 c247 c248 c249 c250 c251 c252 c253 c254 c255 c256 c257 c258 c259 c260 c261 c262 c263 c264 : Value)
    (hQ : ∀ (u262 u263 : Value)  (w' : World), R w' → Q .normal ⟨#[c0, c1, c2, c3, c4, c5, c6, c7, c8, .pointer (some ⟨F, 0, none⟩), c10, c11, c12, c13, c14, c15, c16, c17, c18, c19, c20, c21, v, c23, c24, c25, c26, c27, c28, c29, c30, c31, c32, c33, c34, c35, c36, c37, c38, c39, c40, c41, c42, c43, c44, c45, c46, c47, c48, c49, c50, c51, c52, c53, c54, c55, c56, c57, c58, c59, c60, c61, c62, c63, c64, c65, c66, c67, c68, c69, c70, c71, c72, c73, c74, c75, c76, c77, c78, c79, c80, c81, c82, c83, c84, c85, c86, c87, c88, c89, c90, c91, c92, c93, c94, c95, c96, c97, c98, c99, c100, c101, c102, c103, c104, c105, c106, c107, c108, c109, c110, c111, c112, c113, c114, c115, c116, c117, c118, c119, c120, c121, c122, c123, c124, c125, c126, c127, c128, c129, c130, c131, c132, c133, c134, c135, c136, c137, c138, c139, c140, c141, c142, c143, c144, c145, c146, c147, c148, c149, c150, c151, c152, c153, c154, c155, c156, c157, c158, c159, c160, c161, c162, c163, c164, c165, c166, c167, c168, c169, c170, c171, c172, c173, c174, c175, c176, c177, c178, c179, c180, c181, c182, c183, c184, c185, c186, c187, c188, c189, c190, c191, c192, c193, c194, c195, c196, c197, c198, c199, c200, c201, c202, c203, c204, c205, c206, c207, c208, c209, c210, c211, c212, c213, c214, c215, c216, c217, c218, c219, c220, c221, c222, c223, c224, c225, c226, c227, c228, c229, c230, c231, c232, c233, c234, c235, c236, c237, c238, c239, c240, c241, c242, c243, c244, c245, c246, c247, c248, c249, c250, c251, c252, c253, c254, c255, c256, c257, c258, c259, c260, c261, u262, u263, c264], []⟩ w') :
    Code.wp Yba.prog (stm 17) Q ⟨#[c0, c1, c2, c3, c4, c5, c6, c7, c8, .pointer (some ⟨F, 0, none⟩), c10, c11, c12, c13, c14, c15, c16, c17, c18, c19, c20, c21, v, c23, c24, c25, c26, c27, c28, c29, c30, c31, c32, c33, c34, c35, c36, c37, c38, c39, c40, c41, c42, c43, c44, c45, c46, c47, c48, c49, c50, c51, c52, c53, c54, c55, c56, c57, c58, c59, c60, c61, c62, c63, c64, c65, c66, c67, c68, c69, c70, c71, c72, c73, c74, c75, c76, c77, c78, c79, c80, c81, c82, c83, c84, c85, c86, c87, c88, c89, c90, c91, c92, c93, c94, c95, c96, c97, c98, c99, c100, c101, c102, c103, c104, c105, c106, c107, c108, c109, c110, c111, c112, c113, c114, c115, c116, c117, c118, c119, c120, c121, c122, c123, c124, c125, c126, c127, c128, c129, c130, c131, c132, c133, c134, c135, c136, c137, c138, c139, c140, c141, c142, c143, c144, c145, c146, c147, c148, c149, c150, c151, c152, c153, c154, c155, c156, c157, c158, c159, c160, c161, c162, c163, c164, c165, c166, c167, c168, c169, c170, c171, c172, c173, c174, c175, c176, c177, c178, c179, c180, c181, c182, c183, c184, c185, c186, c187, c188, c189, c190, c191, c192, c193, c194, c195, c196, c197, c198, c199, c200, c201, c202, c203, c204, c205, c206, c207, c208, c209, c210, c211, c212, c213, c214, c215, c216, c217, c218, c219, c220, c221, c222, c223, c224, c225, c226, c227, c228, c229, c230, c231, c232, c233, c234, c235, c236, c237, c238, c239, c240, c241, c242, c243, c244, c245, c246, c247, c248, c249, c250, c251, c252, c253, c254, c255, c256, c257, c258, c259, c260, c261, c262, c263, c264], []⟩ w := by
  have HQQ : Aside _ := hQ
  clear hQ
  conv => arg 2; whnf
  go_wp2_with fail
  refine C.mono ?_
  rintro e w1 ⟨rfl, hR⟩
  clear C
  go_wp2_with fail
  have hQ := HQQ.out
  exact hQ _ _ w1 hR

set_option maxHeartbeats 4000000 in
set_option maxRecDepth 100000 in
/-- the return -/
theorem stm18 (F RB : Nat) (cs : List Value) (w : World) (hl : cs.length = 517) (hc : w.rangeAt F 0 cs) (ht : w.there RB 0 517) (h1 : ∀ v ∈ cs, v.oneCell' = true) (Q : Exit → Act → World → Prop) (c0 c1 c3 c4 c5 c6 c7 c8 c10 c11 c12 c13 c14 c15 c16 c17 c18 c19 c20 c21 c22 c23 c24 c25 c26 c27 c28 c29 c30 c31 c32 c33 c34 c35 c36 c37 c38 c39 c40 c41 c42 c43 c44 c45 c46 c47 c48 c49 c50 c51 c52 c53 c54 c55 c56 c57 c58 c59 c60 c61 c62 c63 c64 c65 c66 c67 c68 c69 c70 c71 c72 c73 c74 c75 c76 c77 c78 c79 c80 c81 c82 c83 c84 c85 c86 c87 c88 c89 c90 c91 c92 c93 c94 c95 c96 c97 c98 c99 c100 c101 c102 c103 c104 c105 c106 c107 c108 c109 c110 c111 c112 c113 c114 c115 c116 c117 c118 c119 c120 c121 c122 c123 c124 c125 c126 c127 c128 c129 c130 c131 c132 c133 c134 c135 c136 c137 c138 c139 c140 c141 c142 c143 c144 c145 c146 c147 c148 c149 c150 c151 c152 c153 c154 c155 c156 c157 c158 c159 c160 c161 c162 c163 c164 c165 c166 c167 c168 c169 c170 c171 c172 c173 c174 c175 c176 c177 c178 c179 c180 c181 c182 c183 c184 c185 c186 c187 c188 c189 c190 c191 c192 c193 c194 c195 c196 c197 c198 c199 c200 c201 c202 c203 c204 c205 c206 c207 c208 c209 c210 c211 c212 c213 c214 c215 c216 c217 c218 c219 c220 c221 c222 c223 c224 c225 c226 c227 c228 c229 c230 c231 c232 c233 c234 c235 c236 c237 c238 c239 c240 c241 c242 c243 c244 c245 c246 c247 c248 c249 c250 c251 c252 c253 c254 c255 c256 c257 c258 c259 c260 c261 c262 c263 c264 : Value)
    (hQ : ∀ (u264 : Value)  (w' : World), w' = w.setCells RB 0 cs → Q .normal ⟨#[c0, c1, .pointer (some ⟨RB, 0, none⟩), c3, c4, c5, c6, c7, c8, .pointer (some ⟨F, 0, none⟩), c10, c11, c12, c13, c14, c15, c16, c17, c18, c19, c20, c21, c22, c23, c24, c25, c26, c27, c28, c29, c30, c31, c32, c33, c34, c35, c36, c37, c38, c39, c40, c41, c42, c43, c44, c45, c46, c47, c48, c49, c50, c51, c52, c53, c54, c55, c56, c57, c58, c59, c60, c61, c62, c63, c64, c65, c66, c67, c68, c69, c70, c71, c72, c73, c74, c75, c76, c77, c78, c79, c80, c81, c82, c83, c84, c85, c86, c87, c88, c89, c90, c91, c92, c93, c94, c95, c96, c97, c98, c99, c100, c101, c102, c103, c104, c105, c106, c107, c108, c109, c110, c111, c112, c113, c114, c115, c116, c117, c118, c119, c120, c121, c122, c123, c124, c125, c126, c127, c128, c129, c130, c131, c132, c133, c134, c135, c136, c137, c138, c139, c140, c141, c142, c143, c144, c145, c146, c147, c148, c149, c150, c151, c152, c153, c154, c155, c156, c157, c158, c159, c160, c161, c162, c163, c164, c165, c166, c167, c168, c169, c170, c171, c172, c173, c174, c175, c176, c177, c178, c179, c180, c181, c182, c183, c184, c185, c186, c187, c188, c189, c190, c191, c192, c193, c194, c195, c196, c197, c198, c199, c200, c201, c202, c203, c204, c205, c206, c207, c208, c209, c210, c211, c212, c213, c214, c215, c216, c217, c218, c219, c220, c221, c222, c223, c224, c225, c226, c227, c228, c229, c230, c231, c232, c233, c234, c235, c236, c237, c238, c239, c240, c241, c242, c243, c244, c245, c246, c247, c248, c249, c250, c251, c252, c253, c254, c255, c256, c257, c258, c259, c260, c261, c262, c263, u264], []⟩ w') :
    Code.wp Yba.prog (stm 18) Q ⟨#[c0, c1, .pointer (some ⟨RB, 0, none⟩), c3, c4, c5, c6, c7, c8, .pointer (some ⟨F, 0, none⟩), c10, c11, c12, c13, c14, c15, c16, c17, c18, c19, c20, c21, c22, c23, c24, c25, c26, c27, c28, c29, c30, c31, c32, c33, c34, c35, c36, c37, c38, c39, c40, c41, c42, c43, c44, c45, c46, c47, c48, c49, c50, c51, c52, c53, c54, c55, c56, c57, c58, c59, c60, c61, c62, c63, c64, c65, c66, c67, c68, c69, c70, c71, c72, c73, c74, c75, c76, c77, c78, c79, c80, c81, c82, c83, c84, c85, c86, c87, c88, c89, c90, c91, c92, c93, c94, c95, c96, c97, c98, c99, c100, c101, c102, c103, c104, c105, c106, c107, c108, c109, c110, c111, c112, c113, c114, c115, c116, c117, c118, c119, c120, c121, c122, c123, c124, c125, c126, c127, c128, c129, c130, c131, c132, c133, c134, c135, c136, c137, c138, c139, c140, c141, c142, c143, c144, c145, c146, c147, c148, c149, c150, c151, c152, c153, c154, c155, c156, c157, c158, c159, c160, c161, c162, c163, c164, c165, c166, c167, c168, c169, c170, c171, c172, c173, c174, c175, c176, c177, c178, c179, c180, c181, c182, c183, c184, c185, c186, c187, c188, c189, c190, c191, c192, c193, c194, c195, c196, c197, c198, c199, c200, c201, c202, c203, c204, c205, c206, c207, c208, c209, c210, c211, c212, c213, c214, c215, c216, c217, c218, c219, c220, c221, c222, c223, c224, c225, c226, c227, c228, c229, c230, c231, c232, c233, c234, c235, c236, c237, c238, c239, c240, c241, c242, c243, c244, c245, c246, c247, c248, c249, c250, c251, c252, c253, c254, c255, c256, c257, c258, c259, c260, c261, c262, c263, c264], []⟩ w := by
  have HQQ : Aside _ := hQ
  clear hQ
  have hi : (Yba.prog.info? 36).map (·.size) = some cs.length := by rw [hl]; exact size36b
  have hi2 : (Yba.prog.info? 36).map (·.size) = some cs.toArray.size := by rw [List.size_toArray, hl]; exact size36b
  have ht2 : w.there RB 0 cs.toArray.size := by rw [List.size_toArray, hl]; exact ht
  have h2 := all_oneCell_toArray h1
  conv => arg 2; whnf
  go_wp2_with (first | (refine wpList_load_mid rfl 36 (.tmp 9) rfl F 0 rfl cs _ hc Yba.underlying36 rfl hi ?_) | (refine wpList_store_mid rfl 36 (.tmp 2) (.tmp 264) rfl RB 0 cs.toArray rfl rfl ht2 hi2 h2 ?_))
  have hQ := HQQ.out
  exact hQ _ _ rfl
end Go.Proofs.Ybulkckss
