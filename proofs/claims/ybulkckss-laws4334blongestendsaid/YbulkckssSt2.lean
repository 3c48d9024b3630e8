import Derived.Test.YbulkckssSt1
import Derived.Deep.RegionLaw
namespace Go.Proofs.Ybulkckss
open Go.RowKit Go.Lib

theorem Yba.info47 : (Yba.prog.info? 47).map (fun i => (i.zero, i.size, i.bytes)) = some (some (.agg #[.int .i32 0, .int .i32 0, .int .i32 0, .int .i32 0, .int .i32 0]), 5, 20) := by kernel_rfl
theorem Yba.info54 : (Yba.prog.info? 54).map (fun i => (i.zero, i.size, i.bytes)) = some (some (.agg #[.int .u8 0, .int .i32 0]), 2, 8) := by kernel_rfl
theorem make_states (A : Nat) (hA : A ≤ 65536) (w : World) : (Instr.makeSlice 30 (.int .i64 1) (.int .i64 (1 + (A : Int)))).run Yba.prog w = .ok (.slice (some ⟨w.heap.size, 0, none⟩) 1 (A + 1)) (w.alloc (.cells (madeCells #[.int .i32 0, .int .i32 0, .int .i32 0, .int .i32 0, .int .i32 0] ((A + 1) * 5)) 47)) := by
  obtain ⟨i0, x0, x1, x2, x3⟩ := info_parts Yba.info47
  have h := run_make (P := Yba.prog) w 30 47 i0 _ Yba.underlying30 x0 x1 .i64 .i64 1 (1 + (A : Int)) (by omega) (by omega) (by rw [x3]; omega) (by omega)
  rw [x2, show (1 + (A : Int)).toNat = A + 1 from by omega] at h
  exact h
theorem make_edges (A : Nat) (hA : A ≤ 65536) (w : World) : (Instr.makeSlice 31 (.int .i64 0) (.int .i64 (A : Int))).run Yba.prog w = .ok (.slice (some ⟨w.heap.size, 0, none⟩) 0 A) (w.alloc (.cells (madeCells #[.int .u8 0, .int .i32 0] (A * 2)) 54)) := by
  obtain ⟨i0, x0, x1, x2, x3⟩ := info_parts Yba.info54
  have h := run_make (P := Yba.prog) w 31 54 i0 _ Yba.underlying31 x0 x1 .i64 .i64 0 (A : Int) (by omega) (by omega) (by rw [x3]; omega) (by omega)
  rw [x2, show (A : Int).toNat = A from by omega] at h
  exact h

/-- a finder of noughts -/
def Z36 : Array Value := #[.slice none 0 0, .slice none 0 0, .slice none 0 0] ++ Array.replicate 256 (.int .i32 0) ++ #[.slice none 0 0] ++ Array.replicate 256 (.int .u16 0) ++ #[.int .i64 0]
theorem Yba.info36 : (Yba.prog.info? 36).map (fun i => (i.zero, i.size)) = some (some (.agg Z36), 517) := by kernel_rfl
theorem zero36 (w : World) : (zeroValue 36).run Yba.prog w = .ok (.agg Z36) w := by
  obtain ⟨i, hi, hp⟩ := Option.map_eq_some_iff.1 Yba.info36
  simp only [Prod.mk.injEq] at hp
  simp [zeroValue, typeInfo, hi, hp.1]
theorem size36 : Z36.size = 517 := by simp [Z36]

def bC (Z : Array Value) (ad : Option Addr) (n cap A SB EB : Nat) : Array Value := ((Z.setIfInBounds 0 (.slice ad n cap)).setIfInBounds 1 (.slice (some ⟨SB, 0, none⟩) 1 (A + 1))).setIfInBounds 2 (.slice (some ⟨EB, 0, none⟩) 0 A)
theorem one36 : Z36.all (·.oneCell') = true := by kernel_rfl
theorem oneB {Z : Array Value} (h : Z.all (·.oneCell') = true) (ad : Option Addr) (n cap A SB EB : Nat) : (bC Z ad n cap A SB EB).all (·.oneCell') = true := by
  have st : ∀ (Y : Array Value) (i : Nat) (v : Value), Y.all (·.oneCell') = true → v.oneCell' = true → (Y.setIfInBounds i v).all (·.oneCell') = true := fun Y i v hY hv => by
    rw [Array.all_eq_true_iff_forall_mem] at hY ⊢
    intro x hx
    rcases Array.mem_or_eq_of_mem_setIfInBounds hx with h | h
    · exact hY x h
    · rw [h]; exact hv
  exact st _ _ _ (st _ _ _ (st _ _ _ h rfl) rfl) rfl
theorem store36 {w : World} {F : Nat} {old cs : Array Value} (hg : w.heap[F]? = some (.cells old 36 (0, 0))) (h1 : cs.size = 517) (h2 : old.size = 517) (h3 : cs.all (·.oneCell') = true) (l : List Value) (hl : l = cs.toList) : (storeCells ⟨F, 0, none⟩ l).run Yba.prog w = .ok () (w.setRow F cs) := by
  obtain ⟨i, hi, hp⟩ := Option.map_eq_some_iff.1 Yba.info36
  simp only [Prod.mk.injEq] at hp
  have hi2 : (Yba.prog.info? 36).map (·.size) = some cs.size := by
    rw [hi, h1]; exact congrArg some hp.2
  have h := run_storeVar_row w F 36 36 old cs hg hi2 (h2.trans h1.symm) h3
  rw [hl]
  simpa [storeVar, Sem.run_bind, sizeOf, typeInfo, hi, hp.2, Value.cells, h1] using h
theorem al1 (w : World) (a b c : Obj) : (((w.alloc a).alloc b).alloc c).drew.heap[w.heap.size]? = some a := (Below.heap_alloc _ _ _ (by simp; omega)).trans ((Below.heap_alloc _ _ _ (by simp)).trans (MapKept.heap_alloc w a).1)
theorem al2 (w : World) (a b c : Obj) : (((w.alloc a).alloc b).alloc c).drew.heap[w.heap.size + 1]? = some b := (Below.heap_alloc _ _ _ (by simp)).trans (by have := (MapKept.heap_alloc (w.alloc a) b).1; rwa [World.size_alloc] at this)
theorem al3 (w : World) (a b c : Obj) : (((w.alloc a).alloc b).alloc c).drew.heap[w.heap.size + 1 + 1]? = some c := by
  have := (MapKept.heap_alloc ((w.alloc a).alloc b) c).1
  rwa [World.size_alloc, World.size_alloc] at this

/-- the finder as it is made -/
structure Made (Z : Array Value) (ad : Option Addr) (n cap A F SB EB : Nat) (w w' : World) : Prop where
  kept : Kept (fun _ => False) w w'
  hF : w'.heap[F]? = some (.cells (bC Z ad n cap A SB EB) 36 (0, 0))
  hS : w'.heap[SB]? = some (.cells (madeCells #[.int .i32 0, .int .i32 0, .int .i32 0, .int .i32 0, .int .i32 0] ((A + 1) * 5)) 47 (0, 0))
  hE : w'.heap[EB]? = some (.cells (madeCells #[.int .u8 0, .int .i32 0] (A * 2)) 54 (0, 0))
  le : w.heap.size ≤ F ∧ w.heap.size ≤ SB ∧ w.heap.size ≤ EB
theorem Made.of {Z : Array Value} {ad : Option Addr} {n cap A F SB EB : Nat} {w W : World} (k : Kept (fun _ => False) w W) (h1 : W.heap[F]? = some (.cells Z 36 (0, 0))) (h2 : W.heap[SB]? = some (.cells (madeCells #[.int .i32 0, .int .i32 0, .int .i32 0, .int .i32 0, .int .i32 0] ((A + 1) * 5)) 47 (0, 0))) (h3 : W.heap[EB]? = some (.cells (madeCells #[.int .u8 0, .int .i32 0] (A * 2)) 54 (0, 0)))
    (l1 : w.heap.size ≤ F) (l2 : w.heap.size ≤ SB) (l3 : w.heap.size ≤ EB) : Made Z ad n cap A F SB EB w (W.setRow F (bC Z ad n cap A SB EB)) := by
  have n1 : SB ≠ F := fun e => by rw [e, h1] at h2; simp at h2
  have n2 : EB ≠ F := fun e => by rw [e, h1] at h3; simp at h3
  refine ⟨⟨k.os, k.tape, k.output, by rw [setRow_size]; exact k.size, fun j hj hS => (setRow_other _ _ _ _ (by omega)).trans (k.block j hj hS)⟩, setRow_heap _ _ _ _ _ _ h1, (setRow_other _ _ _ _ n1).trans h2, (setRow_other _ _ _ _ n2).trans h3, l1, l2, l3⟩
theorem kept3 (w : World) (a b c : Obj) : Kept (fun _ => False) w (((w.alloc a).alloc b).alloc c).drew := Kept.of_below ((((Below.refl _ w).alloc (Nat.le_refl _) a).alloc (by simp) b).alloc (by simp; omega) c).drew

set_option maxHeartbeats 4000000 in
set_option maxRecDepth 100000 in
/-- the finder is made -/
theorem stm6 (TB n cap A : Nat) (ad : Option Addr) (w : World) (hA : A ≤ 65536) (hb : Box TB ad n cap w) (Q : Exit → Act → World → Prop) (c0 c2 c3 c4 c6 c7 c8 c9 c10 c11 c12 c13 c14 c15 c16 c17 c18 c19 c20 c21 c22 c23 c24 c25 c26 c27 c28 c29 c30 c31 c32 c33 c34 c35 c36 c37 c38 c39 c40 c41 c42 c43 c44 c45 c46 c47 c48 c49 c50 c51 c52 c53 c54 c55 c56 c57 c58 c59 c60 c61 c62 c63 c64 c65 c66 c67 c68 c69 c70 c71 c72 c73 c74 c75 c76 c77 c78 c79 c80 c81 c82 c83 c84 c85 c86 c87 c88 c89 c90 c91 c92 c93 c94 c95 c96 c97 c98 c99 c100 c101 c102 c103 c104 c105 c106 c107 c108 c109 c110 c111 c112 c113 c114 c115 c116 c117 c118 c119 c120 c121 c122 c123 c124 c125 c126 c127 c128 c129 c130 c131 c132 c133 c134 c135 c136 c137 c138 c139 c140 c141 c142 c143 c144 c145 c146 c147 c148 c149 c150 c151 c152 c153 c154 c155 c156 c157 c158 c159 c160 c161 c162 c163 c164 c165 c166 c167 c168 c169 c170 c171 c172 c173 c174 c175 c176 c177 c178 c179 c180 c181 c182 c183 c184 c185 c186 c187 c188 c189 c190 c191 c192 c193 c194 c195 c196 c197 c198 c199 c200 c201 c202 c203 c204 c205 c206 c207 c208 c209 c210 c211 c212 c213 c214 c215 c216 c217 c218 c219 c220 c221 c222 c223 c224 c225 c226 c227 c228 c229 c230 c231 c232 c233 c234 c235 c236 c237 c238 c239 c240 c241 c242 c243 c244 c245 c246 c247 c248 c249 c250 c251 c252 c253 c254 c255 c256 c257 c258 c259 c260 c261 c262 c263 c264 : Value)
    (hQ : ∀ (u71 u72 u73 u74 u75 u76 u77 : Value) (F SB EB : Nat) (w' : World), Made Z36 ad n cap A F SB EB w w' → Q .normal ⟨#[c0, .pointer (some ⟨TB, 0, none⟩), c2, c3, c4, .int .i64 A, c6, c7, c8, .pointer (some ⟨F, 0, none⟩), c10, c11, c12, c13, c14, c15, c16, c17, c18, c19, c20, c21, c22, c23, c24, c25, c26, c27, c28, c29, c30, c31, c32, c33, c34, c35, c36, c37, c38, c39, c40, c41, c42, c43, c44, c45, c46, c47, c48, c49, c50, c51, c52, c53, c54, c55, c56, c57, c58, c59, c60, c61, c62, c63, c64, c65, c66, c67, c68, c69, c70, u71, u72, u73, u74, u75, u76, u77, c78, c79, c80, c81, c82, c83, c84, c85, c86, c87, c88, c89, c90, c91, c92, c93, c94, c95, c96, c97, c98, c99, c100, c101, c102, c103, c104, c105, c106, c107, c108, c109, c110, c111, c112, c113, c114, c115, c116, c117, c118, c119, c120, c121, c122, c123, c124, c125, c126, c127, c128, c129, c130, c131, c132, c133, c134, c135, c136, c137, c138, c139, c140, c141, c142, c143, c144, c145, c146, c147, c148, c149, c150, c151, c152, c153, c154, c155, c156, c157, c158, c159, c160, c161, c162, c163, c164, c165, c166, c167, c168, c169, c170, c171, c172, c173, c174, c175, c176, c177, c178, c179, c180, c181, c182, c183, c184, c185, c186, c187, c188, c189, c190, c191, c192, c193, c194, c195, c196, c197, c198, c199, c200, c201, c202, c203, c204, c205, c206, c207, c208, c209, c210, c211, c212, c213, c214, c215, c216, c217, c218, c219, c220, c221, c222, c223, c224, c225, c226, c227, c228, c229, c230, c231, c232, c233, c234, c235, c236, c237, c238, c239, c240, c241, c242, c243, c244, c245, c246, c247, c248, c249, c250, c251, c252, c253, c254, c255, c256, c257, c258, c259, c260, c261, c262, c263, c264], []⟩ w') :
    Code.wp Yba.prog (stm 6) Q ⟨#[c0, .pointer (some ⟨TB, 0, none⟩), c2, c3, c4, .int .i64 A, c6, c7, c8, c9, c10, c11, c12, c13, c14, c15, c16, c17, c18, c19, c20, c21, c22, c23, c24, c25, c26, c27, c28, c29, c30, c31, c32, c33, c34, c35, c36, c37, c38, c39, c40, c41, c42, c43, c44, c45, c46, c47, c48, c49, c50, c51, c52, c53, c54, c55, c56, c57, c58, c59, c60, c61, c62, c63, c64, c65, c66, c67, c68, c69, c70, c71, c72, c73, c74, c75, c76, c77, c78, c79, c80, c81, c82, c83, c84, c85, c86, c87, c88, c89, c90, c91, c92, c93, c94, c95, c96, c97, c98, c99, c100, c101, c102, c103, c104, c105, c106, c107, c108, c109, c110, c111, c112, c113, c114, c115, c116, c117, c118, c119, c120, c121, c122, c123, c124, c125, c126, c127, c128, c129, c130, c131, c132, c133, c134, c135, c136, c137, c138, c139, c140, c141, c142, c143, c144, c145, c146, c147, c148, c149, c150, c151, c152, c153, c154, c155, c156, c157, c158, c159, c160, c161, c162, c163, c164, c165, c166, c167, c168, c169, c170, c171, c172, c173, c174, c175, c176, c177, c178, c179, c180, c181, c182, c183, c184, c185, c186, c187, c188, c189, c190, c191, c192, c193, c194, c195, c196, c197, c198, c199, c200, c201, c202, c203, c204, c205, c206, c207, c208, c209, c210, c211, c212, c213, c214, c215, c216, c217, c218, c219, c220, c221, c222, c223, c224, c225, c226, c227, c228, c229, c230, c231, c232, c233, c234, c235, c236, c237, c238, c239, c240, c241, c242, c243, c244, c245, c246, c247, c248, c249, c250, c251, c252, c253, c254, c255, c256, c257, c258, c259, c260, c261, c262, c263, c264], []⟩ w := by
  have hAI : (A : Int) ≤ 65536 := by omega
  have m1 : ∀ w, (Instr.makeSlice 30 (.int .i64 1) (.int .i64 (IntKind.i64.wrap (1 + (A : Int))))).run Yba.prog w = .ok (.slice (some ⟨w.heap.size, 0, none⟩) 1 (A + 1)) (w.alloc (.cells (madeCells #[.int .i32 0, .int .i32 0, .int .i32 0, .int .i32 0, .int .i32 0] ((A + 1) * 5)) 47)) := fun w => by
    rw [show IntKind.i64.wrap (1 + (A : Int)) = 1 + (A : Int) from by rw [IntKind.wrap_i64]; omega]
    exact make_states A hA w
  have z36 := zero36
  have s36 := size36
  have h36 := one36
  generalize Z36 = Z at *
  have zne : ¬ Z = #[] := fun e => by rw [e] at s36; simp at s36
  have m1b := make_states A hA
  have t0 : (storeCells ⟨w.heap.size, 0, none⟩ (((Z.toList.set 0 (.slice ad n cap)).set 1 (.slice (some ⟨w.heap.size + 1, 0, none⟩) 1 (A + 1))).set 2 (.slice (some ⟨w.heap.size + 1 + 1, 0, none⟩) 0 A))).run Yba.prog (((w.alloc (.cells Z 36)).alloc (.cells (madeCells #[.int .i32 0, .int .i32 0, .int .i32 0, .int .i32 0, .int .i32 0] ((A + 1) * 5)) 47)).alloc (.cells (madeCells #[.int .u8 0, .int .i32 0] (A * 2)) 54)).drew = .ok () ((((w.alloc (.cells Z 36)).alloc (.cells (madeCells #[.int .i32 0, .int .i32 0, .int .i32 0, .int .i32 0, .int .i32 0] ((A + 1) * 5)) 47)).alloc (.cells (madeCells #[.int .u8 0, .int .i32 0] (A * 2)) 54)).drew.setRow (w.heap.size) (bC Z ad n cap A (w.heap.size + 1) (w.heap.size + 1 + 1))) := store36 (al1 w _ _ _) (by simp [bC, s36]) s36 (oneB h36 ad n cap A _ _) _ (by simp [bC])
  have t1 : (storeCells ⟨w.heap.size, 0, none⟩ (((Z.toList.set 0 (.slice ad n cap)).set 1 (.slice (some ⟨w.heap.size + 1 + 1, 0, none⟩) 1 (A + 1))).set 2 (.slice (some ⟨w.heap.size + 1, 0, none⟩) 0 A))).run Yba.prog (((w.alloc (.cells Z 36)).alloc (.cells (madeCells #[.int .u8 0, .int .i32 0] (A * 2)) 54)).alloc (.cells (madeCells #[.int .i32 0, .int .i32 0, .int .i32 0, .int .i32 0, .int .i32 0] ((A + 1) * 5)) 47)).drew = .ok () ((((w.alloc (.cells Z 36)).alloc (.cells (madeCells #[.int .u8 0, .int .i32 0] (A * 2)) 54)).alloc (.cells (madeCells #[.int .i32 0, .int .i32 0, .int .i32 0, .int .i32 0, .int .i32 0] ((A + 1) * 5)) 47)).drew.setRow (w.heap.size) (bC Z ad n cap A (w.heap.size + 1 + 1) (w.heap.size + 1))) := store36 (al1 w _ _ _) (by simp [bC, s36]) s36 (oneB h36 ad n cap A _ _) _ (by simp [bC])
  have t2 : (storeCells ⟨w.heap.size + 1, 0, none⟩ (((Z.toList.set 0 (.slice ad n cap)).set 1 (.slice (some ⟨w.heap.size, 0, none⟩) 1 (A + 1))).set 2 (.slice (some ⟨w.heap.size + 1 + 1, 0, none⟩) 0 A))).run Yba.prog (((w.alloc (.cells (madeCells #[.int .i32 0, .int .i32 0, .int .i32 0, .int .i32 0, .int .i32 0] ((A + 1) * 5)) 47)).alloc (.cells Z 36)).alloc (.cells (madeCells #[.int .u8 0, .int .i32 0] (A * 2)) 54)).drew = .ok () ((((w.alloc (.cells (madeCells #[.int .i32 0, .int .i32 0, .int .i32 0, .int .i32 0, .int .i32 0] ((A + 1) * 5)) 47)).alloc (.cells Z 36)).alloc (.cells (madeCells #[.int .u8 0, .int .i32 0] (A * 2)) 54)).drew.setRow (w.heap.size + 1) (bC Z ad n cap A (w.heap.size) (w.heap.size + 1 + 1))) := store36 (al2 w _ _ _) (by simp [bC, s36]) s36 (oneB h36 ad n cap A _ _) _ (by simp [bC])
  have t3 : (storeCells ⟨w.heap.size + 1 + 1, 0, none⟩ (((Z.toList.set 0 (.slice ad n cap)).set 1 (.slice (some ⟨w.heap.size, 0, none⟩) 1 (A + 1))).set 2 (.slice (some ⟨w.heap.size + 1, 0, none⟩) 0 A))).run Yba.prog (((w.alloc (.cells (madeCells #[.int .i32 0, .int .i32 0, .int .i32 0, .int .i32 0, .int .i32 0] ((A + 1) * 5)) 47)).alloc (.cells (madeCells #[.int .u8 0, .int .i32 0] (A * 2)) 54)).alloc (.cells Z 36)).drew = .ok () ((((w.alloc (.cells (madeCells #[.int .i32 0, .int .i32 0, .int .i32 0, .int .i32 0, .int .i32 0] ((A + 1) * 5)) 47)).alloc (.cells (madeCells #[.int .u8 0, .int .i32 0] (A * 2)) 54)).alloc (.cells Z 36)).drew.setRow (w.heap.size + 1 + 1) (bC Z ad n cap A (w.heap.size) (w.heap.size + 1))) := store36 (al3 w _ _ _) (by simp [bC, s36]) s36 (oneB h36 ad n cap A _ _) _ (by simp [bC])
  have t4 : (storeCells ⟨w.heap.size + 1, 0, none⟩ (((Z.toList.set 0 (.slice ad n cap)).set 1 (.slice (some ⟨w.heap.size + 1 + 1, 0, none⟩) 1 (A + 1))).set 2 (.slice (some ⟨w.heap.size, 0, none⟩) 0 A))).run Yba.prog (((w.alloc (.cells (madeCells #[.int .u8 0, .int .i32 0] (A * 2)) 54)).alloc (.cells Z 36)).alloc (.cells (madeCells #[.int .i32 0, .int .i32 0, .int .i32 0, .int .i32 0, .int .i32 0] ((A + 1) * 5)) 47)).drew = .ok () ((((w.alloc (.cells (madeCells #[.int .u8 0, .int .i32 0] (A * 2)) 54)).alloc (.cells Z 36)).alloc (.cells (madeCells #[.int .i32 0, .int .i32 0, .int .i32 0, .int .i32 0, .int .i32 0] ((A + 1) * 5)) 47)).drew.setRow (w.heap.size + 1) (bC Z ad n cap A (w.heap.size + 1 + 1) (w.heap.size))) := store36 (al2 w _ _ _) (by simp [bC, s36]) s36 (oneB h36 ad n cap A _ _) _ (by simp [bC])
  have t5 : (storeCells ⟨w.heap.size + 1 + 1, 0, none⟩ (((Z.toList.set 0 (.slice ad n cap)).set 1 (.slice (some ⟨w.heap.size + 1, 0, none⟩) 1 (A + 1))).set 2 (.slice (some ⟨w.heap.size, 0, none⟩) 0 A))).run Yba.prog (((w.alloc (.cells (madeCells #[.int .u8 0, .int .i32 0] (A * 2)) 54)).alloc (.cells (madeCells #[.int .i32 0, .int .i32 0, .int .i32 0, .int .i32 0, .int .i32 0] ((A + 1) * 5)) 47)).alloc (.cells Z 36)).drew = .ok () ((((w.alloc (.cells (madeCells #[.int .u8 0, .int .i32 0] (A * 2)) 54)).alloc (.cells (madeCells #[.int .i32 0, .int .i32 0, .int .i32 0, .int .i32 0, .int .i32 0] ((A + 1) * 5)) 47)).alloc (.cells Z 36)).drew.setRow (w.heap.size + 1 + 1) (bC Z ad n cap A (w.heap.size + 1) (w.heap.size))) := store36 (al3 w _ _ _) (by simp [bC, s36]) s36 (oneB h36 ad n cap A _ _) _ (by simp [bC])
  have m2 := make_edges A hA
  have cc0 := hb.2
  have HQQ : Aside _ := hQ
  clear hQ
  conv => arg 2; whnf
  have hTl := tyOf_lt hb.1
  have n1 : ∀ o, (w.alloc o).cell? ⟨TB, 0, none⟩ = some (.slice ad n cap) := fun o => (World.cell?_of_block (Below.heap_alloc _ _ TB hTl)).trans cc0
  have n2 : ∀ o o', ((w.alloc o).alloc o').cell? ⟨TB, 0, none⟩ = some (.slice ad n cap) := fun o o' => (World.cell?_of_block (Below.heap_alloc _ _ TB (by simp; omega))).trans (n1 o)
  have n3 : ∀ o o' o'', (((w.alloc o).alloc o').alloc o'').cell? ⟨TB, 0, none⟩ = some (.slice ad n cap) := fun o o' o'' => (World.cell?_of_block (Below.heap_alloc _ _ TB (by simp; omega))).trans (n2 o o')
  have hne0 : TB ≠ w.heap.size := by omega
  have hne1 : TB ≠ w.heap.size + 1 := by omega
  have hne2 : TB ≠ w.heap.size + 2 := by omega
  go_wp2_with fail
  go_region_held3 (fun w' => w'.cell? ⟨TB, 0, none⟩ = some (.slice ad n cap))
    (first | exact cc0 | exact n1 _ | exact n2 _ _ | exact n3 _ _ _ | (rw [cell_setRow_other _ _ _ _ (by simp only; omega)]; exact n3 _ _ _) | go_keep) (fail)
  all_goals
    go_wp2_with fail
    have hQ := HQQ.out
    first
      | exact hQ _ _ _ _ _ _ _ w.heap.size (w.heap.size + 1) (w.heap.size + 1 + 1) _ (Made.of (kept3 w _ _ _) (al1 w _ _ _) (al2 w _ _ _) (al3 w _ _ _) (by omega) (by omega) (by omega))
      | exact hQ _ _ _ _ _ _ _ w.heap.size (w.heap.size + 1 + 1) (w.heap.size + 1) _ (Made.of (kept3 w _ _ _) (al1 w _ _ _) (al3 w _ _ _) (al2 w _ _ _) (by omega) (by omega) (by omega))
      | exact hQ _ _ _ _ _ _ _ (w.heap.size + 1) w.heap.size (w.heap.size + 1 + 1) _ (Made.of (kept3 w _ _ _) (al2 w _ _ _) (al1 w _ _ _) (al3 w _ _ _) (by omega) (by omega) (by omega))
      | exact hQ _ _ _ _ _ _ _ (w.heap.size + 1 + 1) w.heap.size (w.heap.size + 1) _ (Made.of (kept3 w _ _ _) (al3 w _ _ _) (al1 w _ _ _) (al2 w _ _ _) (by omega) (by omega) (by omega))
      | exact hQ _ _ _ _ _ _ _ (w.heap.size + 1) (w.heap.size + 1 + 1) w.heap.size _ (Made.of (kept3 w _ _ _) (al2 w _ _ _) (al3 w _ _ _) (al1 w _ _ _) (by omega) (by omega) (by omega))
      | exact hQ _ _ _ _ _ _ _ (w.heap.size + 1 + 1) (w.heap.size + 1) w.heap.size _ (Made.of (kept3 w _ _ _) (al3 w _ _ _) (al2 w _ _ _) (al1 w _ _ _) (by omega) (by omega) (by omega))
end Go.Proofs.Ybulkckss
