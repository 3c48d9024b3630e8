import Derived.Test.YbulkckssSt2
namespace Go.Proofs.Ybulkckss
open Go.RowKit Go.Lib

theorem set_blk {w : World} {B o : Nat} {v : Value} {cs : Array Value} {t : TypeId} (h : w.heap[B]? = some (.cells cs t (0, 0))) : (w.setCell ⟨B, o, none⟩ v).heap[B]? = some (.cells (cs.setIfInBounds o v) t (0, 0)) := by
  simp [World.setCell, Array.getElem?_modify, h]
def put5 (w : World) (B i : Nat) (v0 v1 v2 v3 v4 : Value) : World := ((((w.setCell ⟨B, i * 5, none⟩ v0).setCell ⟨B, i * 5 + 1, none⟩ v1).setCell ⟨B, i * 5 + 2, none⟩ v2).setCell ⟨B, i * 5 + 3, none⟩ v3).setCell ⟨B, i * 5 + 4, none⟩ v4
theorem first5 {w : World} {base SB A : Nat} {cs : Array Value} {v0 v1 v2 v3 v4 : Value} (h : w.heap[SB]? = some (.cells cs 47 (0, 0))) (hsz : cs.size = (A + 1) * 5) (hA : A + 1 ≤ maxLen) (hle : base ≤ SB) :
    (put5 w SB 0 v0 v1 v2 v3 v4).ownsRow base 47 5 (.slice (some ⟨SB, 0, none⟩) 1 (A + 1)) 1 [v0, v1, v2, v3, v4] := by
  unfold put5
  refine ⟨rfl, .inr ⟨SB, A + 1, _, rfl, hle, set_blk (set_blk (set_blk (set_blk (set_blk h)))), by omega, hA, by simp [hsz], ?_⟩⟩
  apply List.ext_getElem?
  intro j
  have hl : 5 ≤ cs.size := by omega
  rcases (show j = 0 ∨ j = 1 ∨ j = 2 ∨ j = 3 ∨ j = 4 ∨ 5 ≤ j by omega) with rfl | rfl | rfl | rfl | rfl | h5
  · simp [show 0 < cs.size by omega]
  · simp [show 1 < cs.size by omega]
  · simp [show 2 < cs.size by omega]
  · simp [show 3 < cs.size by omega]
  · simp [show 4 < cs.size by omega]
  · rw [List.getElem?_take_eq_none (by omega), List.getElem?_eq_none (by simpa using h5)]

/-- the finder as it grows: N states, their cells xs -/
structure GF (Z : Array Value) (w0 : World) (ad : Option Addr) (n cap A F EB N : Nat) (vS : Value) (xs : List Value) (w : World) : Prop where
  kept : Kept (fun _ => False) w0 w
  tF : tyOf w F = some 36
  c0 : w.cell? ⟨F, 0, none⟩ = some (.slice ad n cap)
  c1 : w.cell? ⟨F, 1, none⟩ = some vS
  c2 : w.cell? ⟨F, 2, none⟩ = some (.slice (some ⟨EB, 0, none⟩) 0 A)
  cz : ∀ o, 3 ≤ o → o < 517 → w.cell? ⟨F, o, none⟩ = Z[o]?
  oS : w.ownsRow w0.heap.size 47 5 vS N xs
  oE : w.ownsRow w0.heap.size 54 2 (.slice (some ⟨EB, 0, none⟩) 0 A) 0 []
  le : w0.heap.size ≤ F
set_option maxHeartbeats 1000000 in
theorem Made.gf {Z : Array Value} (s36 : Z.size = 517) {ad : Option Addr} {n cap A F SB EB : Nat} {w0 w : World} (h : Made Z ad n cap A F SB EB w0 w) (hA : A ≤ 65536) :
    GF Z w0 ad n cap A F EB 1 (.slice (some ⟨SB, 0, none⟩) 1 (A + 1)) [.int .i32 0, .int .i32 0, .int .i32 0, .int .i32 (-1), .int .i32 (-1)] (put5 w SB 0 (.int .i32 0) (.int .i32 0) (.int .i32 0) (.int .i32 (-1)) (.int .i32 (-1))) := by
  have tS := tyOf_of h.hS
  have tF := tyOf_of h.hF
  have tE := tyOf_of h.hE
  have nF : F ≠ SB := tyOf_ne tF tS (by decide)
  have nE : EB ≠ SB := tyOf_ne tE tS (by decide)
  have blk : ∀ k, k ≠ SB → (put5 w SB 0 (.int .i32 0) (.int .i32 0) (.int .i32 0) (.int .i32 (-1)) (.int .i32 (-1))).heap[k]? = w.heap[k]? := fun k hk => by
    unfold put5
    rw [set_other hk, set_other hk, set_other hk, set_other hk, set_other hk]
  have hmx : A + 1 ≤ maxLen := by unfold maxLen; omega
  have hF := (blk F nF).trans h.hF
  have cF : ∀ o, (put5 w SB 0 (.int .i32 0) (.int .i32 0) (.int .i32 0) (.int .i32 (-1)) (.int .i32 (-1))).cell? ⟨F, o, none⟩ = (bC Z ad n cap A SB EB)[o]? := fun o => by simp [World.cell?, hF]
  refine ⟨⟨h.kept.os, h.kept.tape, h.kept.output, ?_, fun k hk hS => (blk k (by have := h.le; omega)).trans (h.kept.block k hk hS)⟩, tyOf_of hF, ?_, ?_, ?_, fun o h3 ho => ?_, first5 h.hS (size_madeCells _ _) hmx h.le.2.1, ⟨by simp, .inr ⟨EB, A, _, rfl, h.le.2.2, (blk EB nE).trans h.hE, by omega, by unfold maxLen; omega, size_madeCells _ _, by simp⟩⟩, h.le.1⟩
  · unfold put5; simpa using h.kept.size
  · rw [cF]; simp [bC, s36]
  · rw [cF]; simp [bC, s36]
  · rw [cF]; simp [bC, s36]
  · rw [cF]
    unfold bC
    rw [Array.getElem?_setIfInBounds_ne (by omega), Array.getElem?_setIfInBounds_ne (by omega), Array.getElem?_setIfInBounds_ne (by omega)]

set_option maxHeartbeats 4000000 in
set_option maxRecDepth 100000 in
/-- the start state -/
theorem stm7 (n cap A F SB EB : Nat) (ad : Option Addr) (w0 w : World) (hA : A ≤ 65536) (h : Made Z36 ad n cap A F SB EB w0 w) (Q : Exit → Act → World → Prop) (c0 c1 c2 c3 c4 c5 c6 c7 c8 c10 c11 c12 c13 c14 c15 c16 c17 c18 c19 c20 c21 c22 c23 c24 c25 c26 c27 c28 c29 c30 c31 c32 c33 c34 c35 c36 c37 c38 c39 c40 c41 c42 c43 c44 c45 c46 c47 c48 c49 c50 c51 c52 c53 c54 c55 c56 c57 c58 c59 c60 c61 c62 c63 c64 c65 c66 c67 c68 c69 c70 c71 c72 c73 c74 c75 c76 c77 c78 c79 c80 c81 c82 c83 c84 c85 c86 c87 c88 c89 c90 c91 c92 c93 c94 c95 c96 c97 c98 c99 c100 c101 c102 c103 c104 c105 c106 c107 c108 c109 c110 c111 c112 c113 c114 c115 c116 c117 c118 c119 c120 c121 c122 c123 c124 c125 c126 c127 c128 c129 c130 c131 c132 c133 c134 c135 c136 c137 c138 c139 c140 c141 c142 c143 c144 c145 c146 c147 c148 c149 c150 c151 c152 c153 c154 c155 c156 c157 c158 c159 c160 c161 c162 c163 c164 c165 c166 c167 c168 c169 c170 c171 c172 c173 c174 c175 c176 c177 c178 c179 c180 c181 c182 c183 c184 c185 c186 c187 c188 c189 c190 c191 c192 c193 c194 c195 c196 c197 c198 c199 c200 c201 c202 c203 c204 c205 c206 c207 c208 c209 c210 c211 c212 c213 c214 c215 c216 c217 c218 c219 c220 c221 c222 c223 c224 c225 c226 c227 c228 c229 c230 c231 c232 c233 c234 c235 c236 c237 c238 c239 c240 c241 c242 c243 c244 c245 c246 c247 c248 c249 c250 c251 c252 c253 c254 c255 c256 c257 c258 c259 c260 c261 c262 c263 c264 : Value)
    (hQ : ∀ (u78 u79 u80 u81 : Value)  (w' : World), GF Z36 w0 ad n cap A F EB 1 (.slice (some ⟨SB, 0, none⟩) 1 (A + 1)) [.int .i32 0, .int .i32 0, .int .i32 0, .int .i32 (-1), .int .i32 (-1)] w' → Q .normal ⟨#[c0, c1, c2, c3, c4, c5, c6, c7, c8, .pointer (some ⟨F, 0, none⟩), c10, c11, c12, c13, c14, c15, c16, c17, c18, c19, c20, c21, c22, c23, c24, c25, c26, c27, c28, c29, c30, c31, c32, c33, c34, c35, c36, c37, c38, c39, c40, c41, c42, c43, c44, c45, c46, c47, c48, c49, c50, c51, c52, c53, c54, c55, c56, c57, c58, c59, c60, c61, c62, c63, c64, c65, c66, c67, c68, c69, c70, c71, c72, c73, c74, c75, c76, c77, u78, u79, u80, u81, c82, c83, c84, c85, c86, c87, c88, c89, c90, c91, c92, c93, c94, c95, c96, c97, c98, c99, c100, c101, c102, c103, c104, c105, c106, c107, c108, c109, c110, c111, c112, c113, c114, c115, c116, c117, c118, c119, c120, c121, c122, c123, c124, c125, c126, c127, c128, c129, c130, c131, c132, c133, c134, c135, c136, c137, c138, c139, c140, c141, c142, c143, c144, c145, c146, c147, c148, c149, c150, c151, c152, c153, c154, c155, c156, c157, c158, c159, c160, c161, c162, c163, c164, c165, c166, c167, c168, c169, c170, c171, c172, c173, c174, c175, c176, c177, c178, c179, c180, c181, c182, c183, c184, c185, c186, c187, c188, c189, c190, c191, c192, c193, c194, c195, c196, c197, c198, c199, c200, c201, c202, c203, c204, c205, c206, c207, c208, c209, c210, c211, c212, c213, c214, c215, c216, c217, c218, c219, c220, c221, c222, c223, c224, c225, c226, c227, c228, c229, c230, c231, c232, c233, c234, c235, c236, c237, c238, c239, c240, c241, c242, c243, c244, c245, c246, c247, c248, c249, c250, c251, c252, c253, c254, c255, c256, c257, c258, c259, c260, c261, c262, c263, c264], []⟩ w') :
    Code.wp Yba.prog (stm 7) Q ⟨#[c0, c1, c2, c3, c4, c5, c6, c7, c8, .pointer (some ⟨F, 0, none⟩), c10, c11, c12, c13, c14, c15, c16, c17, c18, c19, c20, c21, c22, c23, c24, c25, c26, c27, c28, c29, c30, c31, c32, c33, c34, c35, c36, c37, c38, c39, c40, c41, c42, c43, c44, c45, c46, c47, c48, c49, c50, c51, c52, c53, c54, c55, c56, c57, c58, c59, c60, c61, c62, c63, c64, c65, c66, c67, c68, c69, c70, c71, c72, c73, c74, c75, c76, c77, c78, c79, c80, c81, c82, c83, c84, c85, c86, c87, c88, c89, c90, c91, c92, c93, c94, c95, c96, c97, c98, c99, c100, c101, c102, c103, c104, c105, c106, c107, c108, c109, c110, c111, c112, c113, c114, c115, c116, c117, c118, c119, c120, c121, c122, c123, c124, c125, c126, c127, c128, c129, c130, c131, c132, c133, c134, c135, c136, c137, c138, c139, c140, c141, c142, c143, c144, c145, c146, c147, c148, c149, c150, c151, c152, c153, c154, c155, c156, c157, c158, c159, c160, c161, c162, c163, c164, c165, c166, c167, c168, c169, c170, c171, c172, c173, c174, c175, c176, c177, c178, c179, c180, c181, c182, c183, c184, c185, c186, c187, c188, c189, c190, c191, c192, c193, c194, c195, c196, c197, c198, c199, c200, c201, c202, c203, c204, c205, c206, c207, c208, c209, c210, c211, c212, c213, c214, c215, c216, c217, c218, c219, c220, c221, c222, c223, c224, c225, c226, c227, c228, c229, c230, c231, c232, c233, c234, c235, c236, c237, c238, c239, c240, c241, c242, c243, c244, c245, c246, c247, c248, c249, c250, c251, c252, c253, c254, c255, c256, c257, c258, c259, c260, c261, c262, c263, c264], []⟩ w := by
  have s36 := size36
  generalize Z36 = Z at *
  have g := h.gf s36 hA
  have d1 : w.cell? ⟨F, 1, none⟩ = some (.slice (some ⟨SB, 0, none⟩) 1 (A + 1)) := by
    simp only [World.cell?, h.hF]
    simp [bC, s36]
  have fz := tyOf_frozen (tyOf_of h.hS)
  have cS : ∀ o, o < 5 → ∃ v, w.cell? ⟨SB, o, none⟩ = some v := fun o ho => by
    simp only [World.cell?, h.hS]
    exact ⟨_, Array.getElem?_eq_getElem (by rw [size_madeCells]; omega)⟩
  obtain ⟨v0, e0⟩ := cS 0 (by omega)
  obtain ⟨v1, e1⟩ := cS 1 (by omega)
  obtain ⟨v2, e2⟩ := cS 2 (by omega)
  obtain ⟨v3, e3⟩ := cS 3 (by omega)
  obtain ⟨v4, e4⟩ := cS 4 (by omega)
  have HQQ : Aside _ := hQ
  clear hQ cS h s36
  conv => arg 2; whnf
  go_wp2_with fail
  have hQ := HQQ.out
  exact hQ _ _ _ _ _ g

theorem Yba.info56 : (Yba.prog.info? 56).map (fun i => (i.zero, i.size, i.bytes)) = some (some (.agg #[.int .i32 0, .int .u8 0, .int .i32 0]), 3, 12) := by kernel_rfl

set_option maxHeartbeats 4000000 in
set_option maxRecDepth 100000 in
/-- the edges' row -/
theorem stm8 (A : Nat) (w : World) (hA : A ≤ 65536) (Q : Exit → Act → World → Prop) (c0 c1 c2 c3 c4 c6 c7 c8 c9 c10 c11 c12 c13 c14 c15 c16 c17 c18 c19 c20 c21 c22 c23 c24 c25 c26 c27 c28 c29 c30 c31 c32 c33 c34 c35 c36 c37 c38 c39 c40 c41 c42 c43 c44 c45 c46 c47 c48 c49 c50 c51 c52 c53 c54 c55 c56 c57 c58 c59 c60 c61 c62 c63 c64 c65 c66 c67 c68 c69 c70 c71 c72 c73 c74 c75 c76 c77 c78 c79 c80 c81 c82 c83 c84 c85 c86 c87 c88 c89 c90 c91 c92 c93 c94 c95 c96 c97 c98 c99 c100 c101 c102 c103 c104 c105 c106 c107 c108 c109 c110 c111 c112 c113 c114 c115 c116 c117 c118 c119 c120 c121 c122 c123 c124 c125 c126 c127 c128 c129 c130 c131 c132 c133 c134 c135 c136 c137 c138 c139 c140 c141 c142 c143 c144 c145 c146 c147 c148 c149 c150 c151 c152 c153 c154 c155 c156 c157 c158 c159 c160 c161 c162 c163 c164 c165 c166 c167 c168 c169 c170 c171 c172 c173 c174 c175 c176 c177 c178 c179 c180 c181 c182 c183 c184 c185 c186 c187 c188 c189 c190 c191 c192 c193 c194 c195 c196 c197 c198 c199 c200 c201 c202 c203 c204 c205 c206 c207 c208 c209 c210 c211 c212 c213 c214 c215 c216 c217 c218 c219 c220 c221 c222 c223 c224 c225 c226 c227 c228 c229 c230 c231 c232 c233 c234 c235 c236 c237 c238 c239 c240 c241 c242 c243 c244 c245 c246 c247 c248 c249 c250 c251 c252 c253 c254 c255 c256 c257 c258 c259 c260 c261 c262 c263 c264 : Value)
    (hQ : ∀ (u82 u83 : Value)  (w' : World), w'.ownsRow w.heap.size 56 3 (.slice (some ⟨w.heap.size, 0, none⟩) 0 A) 0 [] → Kept (fun _ => False) w w' → Q .normal ⟨#[c0, c1, c2, c3, c4, .int .i64 A, c6, c7, c8, c9, .slice (some ⟨w.heap.size, 0, none⟩) 0 A, c11, c12, c13, c14, c15, c16, c17, c18, c19, c20, c21, c22, c23, c24, c25, c26, c27, c28, c29, c30, c31, c32, c33, c34, c35, c36, c37, c38, c39, c40, c41, c42, c43, c44, c45, c46, c47, c48, c49, c50, c51, c52, c53, c54, c55, c56, c57, c58, c59, c60, c61, c62, c63, c64, c65, c66, c67, c68, c69, c70, c71, c72, c73, c74, c75, c76, c77, c78, c79, c80, c81, u82, u83, c84, c85, c86, c87, c88, c89, c90, c91, c92, c93, c94, c95, c96, c97, c98, c99, c100, c101, c102, c103, c104, c105, c106, c107, c108, c109, c110, c111, c112, c113, c114, c115, c116, c117, c118, c119, c120, c121, c122, c123, c124, c125, c126, c127, c128, c129, c130, c131, c132, c133, c134, c135, c136, c137, c138, c139, c140, c141, c142, c143, c144, c145, c146, c147, c148, c149, c150, c151, c152, c153, c154, c155, c156, c157, c158, c159, c160, c161, c162, c163, c164, c165, c166, c167, c168, c169, c170, c171, c172, c173, c174, c175, c176, c177, c178, c179, c180, c181, c182, c183, c184, c185, c186, c187, c188, c189, c190, c191, c192, c193, c194, c195, c196, c197, c198, c199, c200, c201, c202, c203, c204, c205, c206, c207, c208, c209, c210, c211, c212, c213, c214, c215, c216, c217, c218, c219, c220, c221, c222, c223, c224, c225, c226, c227, c228, c229, c230, c231, c232, c233, c234, c235, c236, c237, c238, c239, c240, c241, c242, c243, c244, c245, c246, c247, c248, c249, c250, c251, c252, c253, c254, c255, c256, c257, c258, c259, c260, c261, c262, c263, c264], []⟩ w') :
    Code.wp Yba.prog (stm 8) Q ⟨#[c0, c1, c2, c3, c4, .int .i64 A, c6, c7, c8, c9, c10, c11, c12, c13, c14, c15, c16, c17, c18, c19, c20, c21, c22, c23, c24, c25, c26, c27, c28, c29, c30, c31, c32, c33, c34, c35, c36, c37, c38, c39, c40, c41, c42, c43, c44, c45, c46, c47, c48, c49, c50, c51, c52, c53, c54, c55, c56, c57, c58, c59, c60, c61, c62, c63, c64, c65, c66, c67, c68, c69, c70, c71, c72, c73, c74, c75, c76, c77, c78, c79, c80, c81, c82, c83, c84, c85, c86, c87, c88, c89, c90, c91, c92, c93, c94, c95, c96, c97, c98, c99, c100, c101, c102, c103, c104, c105, c106, c107, c108, c109, c110, c111, c112, c113, c114, c115, c116, c117, c118, c119, c120, c121, c122, c123, c124, c125, c126, c127, c128, c129, c130, c131, c132, c133, c134, c135, c136, c137, c138, c139, c140, c141, c142, c143, c144, c145, c146, c147, c148, c149, c150, c151, c152, c153, c154, c155, c156, c157, c158, c159, c160, c161, c162, c163, c164, c165, c166, c167, c168, c169, c170, c171, c172, c173, c174, c175, c176, c177, c178, c179, c180, c181, c182, c183, c184, c185, c186, c187, c188, c189, c190, c191, c192, c193, c194, c195, c196, c197, c198, c199, c200, c201, c202, c203, c204, c205, c206, c207, c208, c209, c210, c211, c212, c213, c214, c215, c216, c217, c218, c219, c220, c221, c222, c223, c224, c225, c226, c227, c228, c229, c230, c231, c232, c233, c234, c235, c236, c237, c238, c239, c240, c241, c242, c243, c244, c245, c246, c247, c248, c249, c250, c251, c252, c253, c254, c255, c256, c257, c258, c259, c260, c261, c262, c263, c264], []⟩ w := by
  have hAI : (A : Int) ≤ 65536 := by omega
  obtain ⟨i0, x0, x1, x2, x3⟩ := info_parts Yba.info56
  have HQQ : Aside _ := hQ
  clear hQ
  conv => arg 2; whnf
  go_wp2_with (at_make; refine wpList_make_own w rfl (.const (.int .i64 0)) (.tmp 82) 52 rfl w.heap.size 56 i0 _ 3 Yba.underlying52 x0 x1 x2 .i64 .i64 A A rfl rfl rfl ?b2 ?b3 ?b4 ?_)
  case b2 => omega
  case b3 => unfold maxLen; omega
  intro w3 ho3 hg3
  have kk : Kept (fun _ => False) w w3 := kept_grown hg3
  go_wp2_with fail
  have hQ := HQQ.out
  exact hQ _ _ w3 ho3 kk

set_option maxHeartbeats 4000000 in
set_option maxRecDepth 100000 in
/-- no path yet -/
theorem stm9 (w : World)  (Q : Exit → Act → World → Prop) (c0 c1 c2 c3 c4 c5 c6 c7 c8 c9 c10 c11 c12 c13 c14 c15 c16 c17 c18 c19 c20 c21 c22 c23 c24 c25 c26 c27 c28 c29 c30 c31 c32 c33 c34 c35 c36 c37 c38 c39 c40 c41 c42 c43 c44 c45 c46 c47 c48 c49 c50 c51 c52 c53 c54 c55 c56 c57 c58 c59 c60 c61 c62 c63 c64 c65 c66 c67 c68 c69 c70 c71 c72 c73 c74 c75 c76 c77 c78 c79 c80 c81 c82 c83 c84 c85 c86 c87 c88 c89 c90 c91 c92 c93 c94 c95 c96 c97 c98 c99 c100 c101 c102 c103 c104 c105 c106 c107 c108 c109 c110 c111 c112 c113 c114 c115 c116 c117 c118 c119 c120 c121 c122 c123 c124 c125 c126 c127 c128 c129 c130 c131 c132 c133 c134 c135 c136 c137 c138 c139 c140 c141 c142 c143 c144 c145 c146 c147 c148 c149 c150 c151 c152 c153 c154 c155 c156 c157 c158 c159 c160 c161 c162 c163 c164 c165 c166 c167 c168 c169 c170 c171 c172 c173 c174 c175 c176 c177 c178 c179 c180 c181 c182 c183 c184 c185 c186 c187 c188 c189 c190 c191 c192 c193 c194 c195 c196 c197 c198 c199 c200 c201 c202 c203 c204 c205 c206 c207 c208 c209 c210 c211 c212 c213 c214 c215 c216 c217 c218 c219 c220 c221 c222 c223 c224 c225 c226 c227 c228 c229 c230 c231 c232 c233 c234 c235 c236 c237 c238 c239 c240 c241 c242 c243 c244 c245 c246 c247 c248 c249 c250 c251 c252 c253 c254 c255 c256 c257 c258 c259 c260 c261 c262 c263 c264 : Value)
    (hQ : ∀   (w' : World), w' = w → Q .normal ⟨#[c0, c1, c2, c3, c4, c5, c6, c7, c8, c9, c10, .slice none 0 0, c12, c13, c14, c15, c16, c17, c18, c19, c20, c21, c22, c23, c24, c25, c26, c27, c28, c29, c30, c31, c32, c33, c34, c35, c36, c37, c38, c39, c40, c41, c42, c43, c44, c45, c46, c47, c48, c49, c50, c51, c52, c53, c54, c55, c56, c57, c58, c59, c60, c61, c62, c63, c64, c65, c66, c67, c68, c69, c70, c71, c72, c73, c74, c75, c76, c77, c78, c79, c80, c81, c82, c83, c84, c85, c86, c87, c88, c89, c90, c91, c92, c93, c94, c95, c96, c97, c98, c99, c100, c101, c102, c103, c104, c105, c106, c107, c108, c109, c110, c111, c112, c113, c114, c115, c116, c117, c118, c119, c120, c121, c122, c123, c124, c125, c126, c127, c128, c129, c130, c131, c132, c133, c134, c135, c136, c137, c138, c139, c140, c141, c142, c143, c144, c145, c146, c147, c148, c149, c150, c151, c152, c153, c154, c155, c156, c157, c158, c159, c160, c161, c162, c163, c164, c165, c166, c167, c168, c169, c170, c171, c172, c173, c174, c175, c176, c177, c178, c179, c180, c181, c182, c183, c184, c185, c186, c187, c188, c189, c190, c191, c192, c193, c194, c195, c196, c197, c198, c199, c200, c201, c202, c203, c204, c205, c206, c207, c208, c209, c210, c211, c212, c213, c214, c215, c216, c217, c218, c219, c220, c221, c222, c223, c224, c225, c226, c227, c228, c229, c230, c231, c232, c233, c234, c235, c236, c237, c238, c239, c240, c241, c242, c243, c244, c245, c246, c247, c248, c249, c250, c251, c252, c253, c254, c255, c256, c257, c258, c259, c260, c261, c262, c263, c264], []⟩ w') :
    Code.wp Yba.prog (stm 9) Q ⟨#[c0, c1, c2, c3, c4, c5, c6, c7, c8, c9, c10, c11, c12, c13, c14, c15, c16, c17, c18, c19, c20, c21, c22, c23, c24, c25, c26, c27, c28, c29, c30, c31, c32, c33, c34, c35, c36, c37, c38, c39, c40, c41, c42, c43, c44, c45, c46, c47, c48, c49, c50, c51, c52, c53, c54, c55, c56, c57, c58, c59, c60, c61, c62, c63, c64, c65, c66, c67, c68, c69, c70, c71, c72, c73, c74, c75, c76, c77, c78, c79, c80, c81, c82, c83, c84, c85, c86, c87, c88, c89, c90, c91, c92, c93, c94, c95, c96, c97, c98, c99, c100, c101, c102, c103, c104, c105, c106, c107, c108, c109, c110, c111, c112, c113, c114, c115, c116, c117, c118, c119, c120, c121, c122, c123, c124, c125, c126, c127, c128, c129, c130, c131, c132, c133, c134, c135, c136, c137, c138, c139, c140, c141, c142, c143, c144, c145, c146, c147, c148, c149, c150, c151, c152, c153, c154, c155, c156, c157, c158, c159, c160, c161, c162, c163, c164, c165, c166, c167, c168, c169, c170, c171, c172, c173, c174, c175, c176, c177, c178, c179, c180, c181, c182, c183, c184, c185, c186, c187, c188, c189, c190, c191, c192, c193, c194, c195, c196, c197, c198, c199, c200, c201, c202, c203, c204, c205, c206, c207, c208, c209, c210, c211, c212, c213, c214, c215, c216, c217, c218, c219, c220, c221, c222, c223, c224, c225, c226, c227, c228, c229, c230, c231, c232, c233, c234, c235, c236, c237, c238, c239, c240, c241, c242, c243, c244, c245, c246, c247, c248, c249, c250, c251, c252, c253, c254, c255, c256, c257, c258, c259, c260, c261, c262, c263, c264], []⟩ w := by
  have HQQ : Aside _ := hQ
  clear hQ
  conv => arg 2; whnf
  go_wp2_with fail
  have hQ := HQQ.out
  exact hQ  w rfl

set_option maxHeartbeats 4000000 in
set_option maxRecDepth 100000 in
/-- no text yet -/
theorem stm10 (w : World)  (Q : Exit → Act → World → Prop) (c0 c1 c2 c3 c4 c5 c6 c7 c8 c9 c10 c11 c12 c13 c14 c15 c16 c17 c18 c19 c20 c21 c22 c23 c24 c25 c26 c27 c28 c29 c30 c31 c32 c33 c34 c35 c36 c37 c38 c39 c40 c41 c42 c43 c44 c45 c46 c47 c48 c49 c50 c51 c52 c53 c54 c55 c56 c57 c58 c59 c60 c61 c62 c63 c64 c65 c66 c67 c68 c69 c70 c71 c72 c73 c74 c75 c76 c77 c78 c79 c80 c81 c82 c83 c84 c85 c86 c87 c88 c89 c90 c91 c92 c93 c94 c95 c96 c97 c98 c99 c100 c101 c102 c103 c104 c105 c106 c107 c108 c109 c110 c111 c112 c113 c114 c115 c116 c117 c118 c119 c120 c121 c122 c123 c124 c125 c126 c127 c128 c129 c130 c131 c132 c133 c134 c135 c136 c137 c138 c139 c140 c141 c142 c143 c144 c145 c146 c147 c148 c149 c150 c151 c152 c153 c154 c155 c156 c157 c158 c159 c160 c161 c162 c163 c164 c165 c166 c167 c168 c169 c170 c171 c172 c173 c174 c175 c176 c177 c178 c179 c180 c181 c182 c183 c184 c185 c186 c187 c188 c189 c190 c191 c192 c193 c194 c195 c196 c197 c198 c199 c200 c201 c202 c203 c204 c205 c206 c207 c208 c209 c210 c211 c212 c213 c214 c215 c216 c217 c218 c219 c220 c221 c222 c223 c224 c225 c226 c227 c228 c229 c230 c231 c232 c233 c234 c235 c236 c237 c238 c239 c240 c241 c242 c243 c244 c245 c246 c247 c248 c249 c250 c251 c252 c253 c254 c255 c256 c257 c258 c259 c260 c261 c262 c263 c264 : Value)
    (hQ : ∀   (w' : World), w' = w → Q .normal ⟨#[c0, c1, c2, c3, c4, c5, .string ⟨#[]⟩, c7, c8, c9, c10, c11, c12, c13, c14, c15, c16, c17, c18, c19, c20, c21, c22, c23, c24, c25, c26, c27, c28, c29, c30, c31, c32, c33, c34, c35, c36, c37, c38, c39, c40, c41, c42, c43, c44, c45, c46, c47, c48, c49, c50, c51, c52, c53, c54, c55, c56, c57, c58, c59, c60, c61, c62, c63, c64, c65, c66, c67, c68, c69, c70, c71, c72, c73, c74, c75, c76, c77, c78, c79, c80, c81, c82, c83, c84, c85, c86, c87, c88, c89, c90, c91, c92, c93, c94, c95, c96, c97, c98, c99, c100, c101, c102, c103, c104, c105, c106, c107, c108, c109, c110, c111, c112, c113, c114, c115, c116, c117, c118, c119, c120, c121, c122, c123, c124, c125, c126, c127, c128, c129, c130, c131, c132, c133, c134, c135, c136, c137, c138, c139, c140, c141, c142, c143, c144, c145, c146, c147, c148, c149, c150, c151, c152, c153, c154, c155, c156, c157, c158, c159, c160, c161, c162, c163, c164, c165, c166, c167, c168, c169, c170, c171, c172, c173, c174, c175, c176, c177, c178, c179, c180, c181, c182, c183, c184, c185, c186, c187, c188, c189, c190, c191, c192, c193, c194, c195, c196, c197, c198, c199, c200, c201, c202, c203, c204, c205, c206, c207, c208, c209, c210, c211, c212, c213, c214, c215, c216, c217, c218, c219, c220, c221, c222, c223, c224, c225, c226, c227, c228, c229, c230, c231, c232, c233, c234, c235, c236, c237, c238, c239, c240, c241, c242, c243, c244, c245, c246, c247, c248, c249, c250, c251, c252, c253, c254, c255, c256, c257, c258, c259, c260, c261, c262, c263, c264], []⟩ w') :
    Code.wp Yba.prog (stm 10) Q ⟨#[c0, c1, c2, c3, c4, c5, c6, c7, c8, c9, c10, c11, c12, c13, c14, c15, c16, c17, c18, c19, c20, c21, c22, c23, c24, c25, c26, c27, c28, c29, c30, c31, c32, c33, c34, c35, c36, c37, c38, c39, c40, c41, c42, c43, c44, c45, c46, c47, c48, c49, c50, c51, c52, c53, c54, c55, c56, c57, c58, c59, c60, c61, c62, c63, c64, c65, c66, c67, c68, c69, c70, c71, c72, c73, c74, c75, c76, c77, c78, c79, c80, c81, c82, c83, c84, c85, c86, c87, c88, c89, c90, c91, c92, c93, c94, c95, c96, c97, c98, c99, c100, c101, c102, c103, c104, c105, c106, c107, c108, c109, c110, c111, c112, c113, c114, c115, c116, c117, c118, c119, c120, c121, c122, c123, c124, c125, c126, c127, c128, c129, c130, c131, c132, c133, c134, c135, c136, c137, c138, c139, c140, c141, c142, c143, c144, c145, c146, c147, c148, c149, c150, c151, c152, c153, c154, c155, c156, c157, c158, c159, c160, c161, c162, c163, c164, c165, c166, c167, c168, c169, c170, c171, c172, c173, c174, c175, c176, c177, c178, c179, c180, c181, c182, c183, c184, c185, c186, c187, c188, c189, c190, c191, c192, c193, c194, c195, c196, c197, c198, c199, c200, c201, c202, c203, c204, c205, c206, c207, c208, c209, c210, c211, c212, c213, c214, c215, c216, c217, c218, c219, c220, c221, c222, c223, c224, c225, c226, c227, c228, c229, c230, c231, c232, c233, c234, c235, c236, c237, c238, c239, c240, c241, c242, c243, c244, c245, c246, c247, c248, c249, c250, c251, c252, c253, c254, c255, c256, c257, c258, c259, c260, c261, c262, c263, c264], []⟩ w := by
  have HQQ : Aside _ := hQ
  clear hQ
  conv => arg 2; whnf
  go_wp2_with fail
  have hQ := HQQ.out
  exact hQ  w rfl

set_option maxHeartbeats 4000000 in
set_option maxRecDepth 100000 in
/-- the texts' variable and the result's -/
theorem stm0 (n cap : Nat) (ad : Option Addr) (w : World)  (Q : Exit → Act → World → Prop) (c1 c2 c3 c4 c5 c6 c7 c8 c9 c10 c11 c12 c13 c14 c15 c16 c17 c18 c19 c20 c21 c22 c23 c24 c25 c26 c27 c28 c29 c30 c31 c32 c33 c34 c35 c36 c37 c38 c39 c40 c41 c42 c43 c44 c45 c46 c47 c48 c49 c50 c51 c52 c53 c54 c55 c56 c57 c58 c59 c60 c61 c62 c63 c64 c65 c66 c67 c68 c69 c70 c71 c72 c73 c74 c75 c76 c77 c78 c79 c80 c81 c82 c83 c84 c85 c86 c87 c88 c89 c90 c91 c92 c93 c94 c95 c96 c97 c98 c99 c100 c101 c102 c103 c104 c105 c106 c107 c108 c109 c110 c111 c112 c113 c114 c115 c116 c117 c118 c119 c120 c121 c122 c123 c124 c125 c126 c127 c128 c129 c130 c131 c132 c133 c134 c135 c136 c137 c138 c139 c140 c141 c142 c143 c144 c145 c146 c147 c148 c149 c150 c151 c152 c153 c154 c155 c156 c157 c158 c159 c160 c161 c162 c163 c164 c165 c166 c167 c168 c169 c170 c171 c172 c173 c174 c175 c176 c177 c178 c179 c180 c181 c182 c183 c184 c185 c186 c187 c188 c189 c190 c191 c192 c193 c194 c195 c196 c197 c198 c199 c200 c201 c202 c203 c204 c205 c206 c207 c208 c209 c210 c211 c212 c213 c214 c215 c216 c217 c218 c219 c220 c221 c222 c223 c224 c225 c226 c227 c228 c229 c230 c231 c232 c233 c234 c235 c236 c237 c238 c239 c240 c241 c242 c243 c244 c245 c246 c247 c248 c249 c250 c251 c252 c253 c254 c255 c256 c257 c258 c259 c260 c261 c262 c263 c264 : Value)
    (hQ : ∀   (w' : World), Box w.heap.size ad n cap w' → w'.heap[w.heap.size + 1]? = some (.cells Z36 36 (0, 0)) → Kept (fun _ => False) w w' → Q .normal ⟨#[.slice ad n cap, .pointer (some ⟨w.heap.size, 0, none⟩), .pointer (some ⟨w.heap.size + 1, 0, none⟩), c3, c4, c5, c6, c7, c8, c9, c10, c11, c12, c13, c14, c15, c16, c17, c18, c19, c20, c21, c22, c23, c24, c25, c26, c27, c28, c29, c30, c31, c32, c33, c34, c35, c36, c37, c38, c39, c40, c41, c42, c43, c44, c45, c46, c47, c48, c49, c50, c51, c52, c53, c54, c55, c56, c57, c58, c59, c60, c61, c62, c63, c64, c65, c66, c67, c68, c69, c70, c71, c72, c73, c74, c75, c76, c77, c78, c79, c80, c81, c82, c83, c84, c85, c86, c87, c88, c89, c90, c91, c92, c93, c94, c95, c96, c97, c98, c99, c100, c101, c102, c103, c104, c105, c106, c107, c108, c109, c110, c111, c112, c113, c114, c115, c116, c117, c118, c119, c120, c121, c122, c123, c124, c125, c126, c127, c128, c129, c130, c131, c132, c133, c134, c135, c136, c137, c138, c139, c140, c141, c142, c143, c144, c145, c146, c147, c148, c149, c150, c151, c152, c153, c154, c155, c156, c157, c158, c159, c160, c161, c162, c163, c164, c165, c166, c167, c168, c169, c170, c171, c172, c173, c174, c175, c176, c177, c178, c179, c180, c181, c182, c183, c184, c185, c186, c187, c188, c189, c190, c191, c192, c193, c194, c195, c196, c197, c198, c199, c200, c201, c202, c203, c204, c205, c206, c207, c208, c209, c210, c211, c212, c213, c214, c215, c216, c217, c218, c219, c220, c221, c222, c223, c224, c225, c226, c227, c228, c229, c230, c231, c232, c233, c234, c235, c236, c237, c238, c239, c240, c241, c242, c243, c244, c245, c246, c247, c248, c249, c250, c251, c252, c253, c254, c255, c256, c257, c258, c259, c260, c261, c262, c263, c264], []⟩ w') :
    Code.wp Yba.prog (stm 0) Q ⟨#[.slice ad n cap, c1, c2, c3, c4, c5, c6, c7, c8, c9, c10, c11, c12, c13, c14, c15, c16, c17, c18, c19, c20, c21, c22, c23, c24, c25, c26, c27, c28, c29, c30, c31, c32, c33, c34, c35, c36, c37, c38, c39, c40, c41, c42, c43, c44, c45, c46, c47, c48, c49, c50, c51, c52, c53, c54, c55, c56, c57, c58, c59, c60, c61, c62, c63, c64, c65, c66, c67, c68, c69, c70, c71, c72, c73, c74, c75, c76, c77, c78, c79, c80, c81, c82, c83, c84, c85, c86, c87, c88, c89, c90, c91, c92, c93, c94, c95, c96, c97, c98, c99, c100, c101, c102, c103, c104, c105, c106, c107, c108, c109, c110, c111, c112, c113, c114, c115, c116, c117, c118, c119, c120, c121, c122, c123, c124, c125, c126, c127, c128, c129, c130, c131, c132, c133, c134, c135, c136, c137, c138, c139, c140, c141, c142, c143, c144, c145, c146, c147, c148, c149, c150, c151, c152, c153, c154, c155, c156, c157, c158, c159, c160, c161, c162, c163, c164, c165, c166, c167, c168, c169, c170, c171, c172, c173, c174, c175, c176, c177, c178, c179, c180, c181, c182, c183, c184, c185, c186, c187, c188, c189, c190, c191, c192, c193, c194, c195, c196, c197, c198, c199, c200, c201, c202, c203, c204, c205, c206, c207, c208, c209, c210, c211, c212, c213, c214, c215, c216, c217, c218, c219, c220, c221, c222, c223, c224, c225, c226, c227, c228, c229, c230, c231, c232, c233, c234, c235, c236, c237, c238, c239, c240, c241, c242, c243, c244, c245, c246, c247, c248, c249, c250, c251, c252, c253, c254, c255, c256, c257, c258, c259, c260, c261, c262, c263, c264], []⟩ w := by
  have z36 := zero36
  generalize Z36 = Z at *
  have HQQ : Aside _ := hQ
  clear hQ
  conv => arg 2; whnf
  go_wp2_with fail
  have hQ := HQQ.out
  have b1 : ((w.alloc (.cells #[.slice ad n cap] 28)).alloc (.cells Z 36)).heap[w.heap.size]? = some (.cells #[.slice ad n cap] 28 (0, 0)) := (Below.heap_alloc _ _ _ (by simp)).trans (MapKept.heap_alloc w _).1
  refine hQ  _ ⟨tyOf_of b1, by simp [World.cell?, b1]⟩ ?_ (Kept.of_below (((Below.refl _ w).alloc (Nat.le_refl _) _).alloc (by simp) _))
  have := (MapKept.heap_alloc (w.alloc (.cells #[.slice ad n cap] 28)) (.cells Z 36)).1
  rwa [World.size_alloc] at this
end Go.Proofs.Ybulkckss
