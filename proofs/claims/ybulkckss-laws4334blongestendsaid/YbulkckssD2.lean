import Derived.Test.YbulkckssD1
import Derived.Laws.IdiomCopy
namespace Go.Proofs.Ybulkckss
open Go.RowKit

/-- the memory behind the classes: v the bytes' row -/
structure DX (F SB EB N M ks ke : Nat) (st : Nat → Nat → Int) (ed : Nat → Nat × Nat) (sta : Nat → Nat) (TB : Nat) (tv : Value) (base : Nat) (bs : List Nat) (cl : Nat → Nat) (v vD : Value) (nc : Nat) (w0 w : World) : Prop where
  dm : DM F SB EB N M ks ke st ed sta TB tv cl vD nc w
  row : w.ownsRow base 5 1 v bs.length (bL bs)
  kept : Kept (fun k => k = F) w0 w
  le : base ≤ w.heap.size
  b0 : w0.heap.size ≤ base
section
variable {F SB EB N M ks ke : Nat} {st : Nat → Nat → Int} {ed : Nat → Nat × Nat} {sta : Nat → Nat} {TB : Nat} {tv : Value} {base : Nat} {bs : List Nat} {cl : Nat → Nat} {v vD : Value} {nc : Nat} {w0 w w' : World}
theorem DX.new (h : DX F SB EB N M ks ke st ed sta TB tv base bs cl v vD nc w0 w) (b : Below w.heap.size w w') : DX F SB EB N M ks ke st ed sta TB tv base bs cl v vD nc w0 w' :=
  ⟨h.dm.new b, (Kept.of_below b).owns h.row (fun _ _ x => x), h.kept.trans ((Kept.of_below b).weak (fun _ x => x.elim)), Nat.le_trans h.le b.size, h.b0⟩
theorem DX.other {b o : Nat} {x : Value} (h : DX F SB EB N M ks ke st ed sta TB tv base bs cl v vD nc w0 w) (ht : tyOf w b = some 21) (hb : w0.heap.size ≤ b) : DX F SB EB N M ks ke st ed sta TB tv base bs cl v vD nc w0 (w.setCell ⟨b, o, none⟩ x) :=
  ⟨h.dm.other ht (by decide), set_owns h.row ht (by decide), ⟨h.kept.os, h.kept.tape, h.kept.output, by simpa using h.kept.size, fun j hj hS => (set_other (by omega)).trans (h.kept.block j hj hS)⟩, by simpa using h.le, h.b0⟩
theorem DC.dx {ad : Option Addr} {XB n cap : Nat} {tx : Nat → ByteArray} (h : DC F SB EB N M ks ke st ed sta TB ad XB n cap tx base bs cl v w0 w) : DX F SB EB N M ks ke st ed sta TB (.slice ad n cap) base bs cl v (.slice none 0 0) 0 w0 w := ⟨h.dm, h.row, h.kept, h.le, h.b0⟩
theorem DX.setN (h : DX F SB EB N M ks ke st ed sta TB tv base bs cl v vD nc w0 w) (x : Nat) : DX F SB EB N M ks ke st ed sta TB tv base bs cl v vD x w0 (w.setCell ⟨F, 516, none⟩ (.int .i64 x)) :=
  ⟨h.dm.setN x, set_owns h.row h.dm.fm.tF (by decide), h.kept.setCell rfl _, by simpa using h.le, h.b0⟩
theorem DX.setD (h : DX F SB EB N M ks ke st ed sta TB tv base bs cl v vD nc w0 w) (x : Value) : DX F SB EB N M ks ke st ed sta TB tv base bs cl v x nc w0 (w.setCell ⟨F, 259, none⟩ x) :=
  ⟨h.dm.setD x, set_owns h.row h.dm.fm.tF (by decide), h.kept.setCell rfl _, by simpa using h.le, h.b0⟩
theorem DX.sl (h : DX F SB EB N M ks ke st ed sta TB tv base bs cl v vD nc w0 w) : ∃ va vc, v = .slice va bs.length vc := by
  rcases h.row.2 with ⟨h0, h1⟩ | ⟨g, cap, cur, rfl, _⟩
  · exact ⟨none, 0, by rw [h0, h1]⟩
  · exact ⟨_, _, rfl⟩
end
theorem Yba.info21d : (Yba.prog.info? 21).map (fun i => (i.zero, i.size, i.bytes)) = some (some (.int .i32 0), 1, 4) := by kernel_rfl
theorem make_delta (K : Nat) (hK : K ≤ 1048576) (w : World) : (Instr.makeSlice 33 (.int .i64 (K : Int)) (.int .i64 (K : Int))).run Yba.prog w = .ok (.slice (some ⟨w.heap.size, 0, none⟩) K K) (w.alloc (.cells (madeCells #[.int .i32 0] K) 21)) := by
  obtain ⟨i0, x0, x1, x2, x3⟩ := info_parts Yba.info21d
  have h := run_make (P := Yba.prog) w 33 21 i0 _ Yba.underlying33 x0 x1 .i64 .i64 (K : Int) (K : Int) (by omega) (by omega) (by rw [x3]; omega) (by omega)
  rw [x2, show (K : Int).toNat = K from by omega, Nat.mul_one] at h
  exact h
/-- the dense row -/
def RowD (DB K : Nat) (g : Nat → Int) (w : World) : Prop := tyOf w DB = some 21 ∧ ∀ k, k < K → w.cell? ⟨DB, k, none⟩ = some (.int .i32 (g k))
theorem RowD.kept {DB K : Nat} {g : Nat → Int} {w w' : World} {S : Nat → Prop} (h : RowD DB K g w) (k : Kept S w w') (hS : ¬ S DB) : RowD DB K g w' := by
  have e := k.block DB (tyOf_lt h.1) hS
  exact ⟨(tyOf_congr e).trans h.1, fun j hj => (World.cell?_of_block e).trans (h.2 j hj)⟩
theorem RowD.set {DB K : Nat} {g : Nat → Int} {w : World} (h : RowD DB K g w) (i : Nat) (v : Int) : RowD DB K (fun k => if k = i then v else g k) (w.setCell ⟨DB, i, none⟩ (.int .i32 v)) := by
  refine ⟨(set_ty h.1).trans h.1, fun k hk => ?_⟩
  rw [set_cell (h.2 k hk)]
  show _ = some (Value.int .i32 (if k = i then v else g k))
  by_cases e : k = i
  · rw [if_pos (by rw [e]), if_pos e]
  · rw [if_neg (fun x => by simp only [Addr.mk.injEq, true_and, and_true] at x; exact e x.symm), if_neg e]
theorem RowD.made (w : World) (K : Nat) : RowD w.heap.size K (fun _ => 0) (w.alloc (.cells (madeCells #[.int .i32 0] K) 21)) := by
  have e := (MapKept.heap_alloc w (.cells (madeCells #[.int .i32 0] K) 21)).1
  refine ⟨tyOf_of e, fun k hk => ?_⟩
  simp only [World.cell?, e]
  rw [← Array.getElem?_toList, toList_madeCells_one, List.getElem?_replicate, if_pos hk]
  rfl

set_option maxHeartbeats 4000000 in
set_option maxRecDepth 100000 in
/-- the finder's variable -/
theorem dtm0 (F : Nat) (w : World)  (Q : Exit → Act → World → Prop) (c1 c2 c3 c4 c5 c6 c7 c8 c9 c10 c11 c12 c13 c14 c15 c16 c17 c18 c19 c20 c21 c22 c23 c24 c25 c26 c27 c28 c29 c30 c31 c32 c33 c34 c35 c36 c37 c38 c39 c40 c41 c42 c43 c44 c45 c46 c47 c48 c49 c50 c51 c52 c53 c54 c55 c56 c57 c58 c59 c60 c61 c62 c63 c64 c65 c66 c67 c68 c69 c70 c71 c72 c73 c74 c75 c76 c77 c78 c79 c80 c81 c82 c83 c84 c85 c86 c87 c88 c89 c90 c91 c92 c93 c94 c95 c96 c97 c98 c99 c100 c101 c102 c103 c104 c105 c106 c107 c108 c109 c110 c111 c112 c113 c114 c115 c116 c117 c118 c119 c120 c121 c122 c123 c124 c125 c126 c127 c128 c129 c130 c131 c132 c133 c134 c135 c136 c137 c138 c139 c140 c141 c142 c143 c144 c145 c146 c147 c148 c149 c150 c151 c152 c153 c154 c155 c156 c157 c158 c159 c160 c161 c162 c163 c164 c165 c166 c167 c168 c169 c170 c171 c172 c173 c174 c175 c176 c177 c178 c179 c180 c181 c182 c183 c184 c185 c186 c187 c188 c189 c190 c191 c192 c193 c194 c195 c196 : Value)
    (hQ : ∀   (w' : World), w' = w.alloc (.cells #[.pointer (some ⟨F, 0, none⟩)] 43) → Q .normal ⟨#[.pointer (some ⟨F, 0, none⟩), c1, .pointer (some ⟨w.heap.size, 0, none⟩), c3, c4, c5, c6, c7, c8, c9, c10, c11, c12, c13, c14, c15, c16, c17, c18, c19, c20, c21, c22, c23, c24, c25, c26, c27, c28, c29, c30, c31, c32, c33, c34, c35, c36, c37, c38, c39, c40, c41, c42, c43, c44, c45, c46, c47, c48, c49, c50, c51, c52, c53, c54, c55, c56, c57, c58, c59, c60, c61, c62, c63, c64, c65, c66, c67, c68, c69, c70, c71, c72, c73, c74, c75, c76, c77, c78, c79, c80, c81, c82, c83, c84, c85, c86, c87, c88, c89, c90, c91, c92, c93, c94, c95, c96, c97, c98, c99, c100, c101, c102, c103, c104, c105, c106, c107, c108, c109, c110, c111, c112, c113, c114, c115, c116, c117, c118, c119, c120, c121, c122, c123, c124, c125, c126, c127, c128, c129, c130, c131, c132, c133, c134, c135, c136, c137, c138, c139, c140, c141, c142, c143, c144, c145, c146, c147, c148, c149, c150, c151, c152, c153, c154, c155, c156, c157, c158, c159, c160, c161, c162, c163, c164, c165, c166, c167, c168, c169, c170, c171, c172, c173, c174, c175, c176, c177, c178, c179, c180, c181, c182, c183, c184, c185, c186, c187, c188, c189, c190, c191, c192, c193, c194, c195, c196], []⟩ w') :
    Code.wp Yba.prog (dtm 0) Q ⟨#[.pointer (some ⟨F, 0, none⟩), c1, c2, c3, c4, c5, c6, c7, c8, c9, c10, c11, c12, c13, c14, c15, c16, c17, c18, c19, c20, c21, c22, c23, c24, c25, c26, c27, c28, c29, c30, c31, c32, c33, c34, c35, c36, c37, c38, c39, c40, c41, c42, c43, c44, c45, c46, c47, c48, c49, c50, c51, c52, c53, c54, c55, c56, c57, c58, c59, c60, c61, c62, c63, c64, c65, c66, c67, c68, c69, c70, c71, c72, c73, c74, c75, c76, c77, c78, c79, c80, c81, c82, c83, c84, c85, c86, c87, c88, c89, c90, c91, c92, c93, c94, c95, c96, c97, c98, c99, c100, c101, c102, c103, c104, c105, c106, c107, c108, c109, c110, c111, c112, c113, c114, c115, c116, c117, c118, c119, c120, c121, c122, c123, c124, c125, c126, c127, c128, c129, c130, c131, c132, c133, c134, c135, c136, c137, c138, c139, c140, c141, c142, c143, c144, c145, c146, c147, c148, c149, c150, c151, c152, c153, c154, c155, c156, c157, c158, c159, c160, c161, c162, c163, c164, c165, c166, c167, c168, c169, c170, c171, c172, c173, c174, c175, c176, c177, c178, c179, c180, c181, c182, c183, c184, c185, c186, c187, c188, c189, c190, c191, c192, c193, c194, c195, c196], []⟩ w := by
  have HQQ : Aside _ := hQ
  clear hQ
  conv => arg 2; whnf
  go_wp2_with fail
  have hQ := HQQ.out
  exact hQ  _ rfl

set_option maxHeartbeats 4000000 in
set_option maxRecDepth 100000 in
/-- no bytes yet -/
theorem dtm1 (w : World)  (Q : Exit → Act → World → Prop) (c0 c1 c2 c3 c4 c5 c6 c7 c8 c9 c10 c11 c12 c13 c14 c15 c16 c17 c18 c19 c20 c21 c22 c23 c24 c25 c26 c27 c28 c29 c30 c31 c32 c33 c34 c35 c36 c37 c38 c39 c40 c41 c42 c43 c44 c45 c46 c47 c48 c49 c50 c51 c52 c53 c54 c55 c56 c57 c58 c59 c60 c61 c62 c63 c64 c65 c66 c67 c68 c69 c70 c71 c72 c73 c74 c75 c76 c77 c78 c79 c80 c81 c82 c83 c84 c85 c86 c87 c88 c89 c90 c91 c92 c93 c94 c95 c96 c97 c98 c99 c100 c101 c102 c103 c104 c105 c106 c107 c108 c109 c110 c111 c112 c113 c114 c115 c116 c117 c118 c119 c120 c121 c122 c123 c124 c125 c126 c127 c128 c129 c130 c131 c132 c133 c134 c135 c136 c137 c138 c139 c140 c141 c142 c143 c144 c145 c146 c147 c148 c149 c150 c151 c152 c153 c154 c155 c156 c157 c158 c159 c160 c161 c162 c163 c164 c165 c166 c167 c168 c169 c170 c171 c172 c173 c174 c175 c176 c177 c178 c179 c180 c181 c182 c183 c184 c185 c186 c187 c188 c189 c190 c191 c192 c193 c194 c195 c196 : Value)
    (hQ : ∀   (w' : World), w' = w → Q .normal ⟨#[c0, c1, c2, c3, .slice none 0 0, c5, c6, c7, c8, c9, c10, c11, c12, c13, c14, c15, c16, c17, c18, c19, c20, c21, c22, c23, c24, c25, c26, c27, c28, c29, c30, c31, c32, c33, c34, c35, c36, c37, c38, c39, c40, c41, c42, c43, c44, c45, c46, c47, c48, c49, c50, c51, c52, c53, c54, c55, c56, c57, c58, c59, c60, c61, c62, c63, c64, c65, c66, c67, c68, c69, c70, c71, c72, c73, c74, c75, c76, c77, c78, c79, c80, c81, c82, c83, c84, c85, c86, c87, c88, c89, c90, c91, c92, c93, c94, c95, c96, c97, c98, c99, c100, c101, c102, c103, c104, c105, c106, c107, c108, c109, c110, c111, c112, c113, c114, c115, c116, c117, c118, c119, c120, c121, c122, c123, c124, c125, c126, c127, c128, c129, c130, c131, c132, c133, c134, c135, c136, c137, c138, c139, c140, c141, c142, c143, c144, c145, c146, c147, c148, c149, c150, c151, c152, c153, c154, c155, c156, c157, c158, c159, c160, c161, c162, c163, c164, c165, c166, c167, c168, c169, c170, c171, c172, c173, c174, c175, c176, c177, c178, c179, c180, c181, c182, c183, c184, c185, c186, c187, c188, c189, c190, c191, c192, c193, c194, c195, c196], []⟩ w') :
    Code.wp Yba.prog (dtm 1) Q ⟨#[c0, c1, c2, c3, c4, c5, c6, c7, c8, c9, c10, c11, c12, c13, c14, c15, c16, c17, c18, c19, c20, c21, c22, c23, c24, c25, c26, c27, c28, c29, c30, c31, c32, c33, c34, c35, c36, c37, c38, c39, c40, c41, c42, c43, c44, c45, c46, c47, c48, c49, c50, c51, c52, c53, c54, c55, c56, c57, c58, c59, c60, c61, c62, c63, c64, c65, c66, c67, c68, c69, c70, c71, c72, c73, c74, c75, c76, c77, c78, c79, c80, c81, c82, c83, c84, c85, c86, c87, c88, c89, c90, c91, c92, c93, c94, c95, c96, c97, c98, c99, c100, c101, c102, c103, c104, c105, c106, c107, c108, c109, c110, c111, c112, c113, c114, c115, c116, c117, c118, c119, c120, c121, c122, c123, c124, c125, c126, c127, c128, c129, c130, c131, c132, c133, c134, c135, c136, c137, c138, c139, c140, c141, c142, c143, c144, c145, c146, c147, c148, c149, c150, c151, c152, c153, c154, c155, c156, c157, c158, c159, c160, c161, c162, c163, c164, c165, c166, c167, c168, c169, c170, c171, c172, c173, c174, c175, c176, c177, c178, c179, c180, c181, c182, c183, c184, c185, c186, c187, c188, c189, c190, c191, c192, c193, c194, c195, c196], []⟩ w := by
  have HQQ : Aside _ := hQ
  clear hQ
  conv => arg 2; whnf
  go_wp2_with fail
  have hQ := HQQ.out
  exact hQ  _ rfl

set_option maxHeartbeats 4000000 in
set_option maxRecDepth 100000 in
/-- how many classes -/
theorem dtm3 (F SB EB N M ks ke : Nat) (st : Nat → Nat → Int) (ed : Nat → Nat × Nat) (sta : Nat → Nat) (TB : Nat) (tv : Value) (base : Nat) (bs : List Nat) (cl : Nat → Nat) (va : Option Addr) (vc : Nat) (w0 w : World) (hb : bs.length ≤ 256) (h : DX F SB EB N M ks ke st ed sta TB tv base bs cl (.slice va bs.length vc) (.slice none 0 0) 0 w0 w) (Q : Exit → Act → World → Prop) (c0 c1 c3 c5 c6 c7 c8 c9 c10 c11 c12 c13 c14 c15 c16 c17 c18 c19 c20 c21 c22 c23 c24 c25 c26 c27 c28 c29 c30 c31 c32 c33 c34 c35 c36 c37 c38 c39 c40 c41 c42 c43 c44 c45 c46 c47 c48 c49 c50 c51 c52 c53 c54 c55 c56 c57 c58 c59 c60 c61 c62 c63 c64 c65 c66 c67 c68 c69 c70 c71 c72 c73 c74 c75 c76 c77 c78 c79 c80 c81 c82 c83 c84 c85 c86 c87 c88 c89 c90 c91 c92 c93 c94 c95 c96 c97 c98 c99 c100 c101 c102 c103 c104 c105 c106 c107 c108 c109 c110 c111 c112 c113 c114 c115 c116 c117 c118 c119 c120 c121 c122 c123 c124 c125 c126 c127 c128 c129 c130 c131 c132 c133 c134 c135 c136 c137 c138 c139 c140 c141 c142 c143 c144 c145 c146 c147 c148 c149 c150 c151 c152 c153 c154 c155 c156 c157 c158 c159 c160 c161 c162 c163 c164 c165 c166 c167 c168 c169 c170 c171 c172 c173 c174 c175 c176 c177 c178 c179 c180 c181 c182 c183 c184 c185 c186 c187 c188 c189 c190 c191 c192 c193 c194 c195 c196 : Value)
    (hQ : ∀ (u58 u59 u60 u61 u62 u63 : Value)  (w' : World), DX F SB EB N M ks ke st ed sta TB tv base bs cl (.slice va bs.length vc) (.slice none 0 0) (bs.length + 1) w0 w' → Q .normal ⟨#[c0, c1, .pointer (some ⟨TB, 0, none⟩), c3, .slice va bs.length vc, c5, c6, c7, c8, c9, c10, c11, c12, c13, c14, c15, c16, c17, c18, c19, c20, c21, c22, c23, c24, c25, c26, c27, c28, c29, c30, c31, c32, c33, c34, c35, c36, c37, c38, c39, c40, c41, c42, c43, c44, c45, c46, c47, c48, c49, c50, c51, c52, c53, c54, c55, c56, c57, u58, u59, u60, u61, u62, u63, c64, c65, c66, c67, c68, c69, c70, c71, c72, c73, c74, c75, c76, c77, c78, c79, c80, c81, c82, c83, c84, c85, c86, c87, c88, c89, c90, c91, c92, c93, c94, c95, c96, c97, c98, c99, c100, c101, c102, c103, c104, c105, c106, c107, c108, c109, c110, c111, c112, c113, c114, c115, c116, c117, c118, c119, c120, c121, c122, c123, c124, c125, c126, c127, c128, c129, c130, c131, c132, c133, c134, c135, c136, c137, c138, c139, c140, c141, c142, c143, c144, c145, c146, c147, c148, c149, c150, c151, c152, c153, c154, c155, c156, c157, c158, c159, c160, c161, c162, c163, c164, c165, c166, c167, c168, c169, c170, c171, c172, c173, c174, c175, c176, c177, c178, c179, c180, c181, c182, c183, c184, c185, c186, c187, c188, c189, c190, c191, c192, c193, c194, c195, c196], []⟩ w') :
    Code.wp Yba.prog (dtm 3) Q ⟨#[c0, c1, .pointer (some ⟨TB, 0, none⟩), c3, .slice va bs.length vc, c5, c6, c7, c8, c9, c10, c11, c12, c13, c14, c15, c16, c17, c18, c19, c20, c21, c22, c23, c24, c25, c26, c27, c28, c29, c30, c31, c32, c33, c34, c35, c36, c37, c38, c39, c40, c41, c42, c43, c44, c45, c46, c47, c48, c49, c50, c51, c52, c53, c54, c55, c56, c57, c58, c59, c60, c61, c62, c63, c64, c65, c66, c67, c68, c69, c70, c71, c72, c73, c74, c75, c76, c77, c78, c79, c80, c81, c82, c83, c84, c85, c86, c87, c88, c89, c90, c91, c92, c93, c94, c95, c96, c97, c98, c99, c100, c101, c102, c103, c104, c105, c106, c107, c108, c109, c110, c111, c112, c113, c114, c115, c116, c117, c118, c119, c120, c121, c122, c123, c124, c125, c126, c127, c128, c129, c130, c131, c132, c133, c134, c135, c136, c137, c138, c139, c140, c141, c142, c143, c144, c145, c146, c147, c148, c149, c150, c151, c152, c153, c154, c155, c156, c157, c158, c159, c160, c161, c162, c163, c164, c165, c166, c167, c168, c169, c170, c171, c172, c173, c174, c175, c176, c177, c178, c179, c180, c181, c182, c183, c184, c185, c186, c187, c188, c189, c190, c191, c192, c193, c194, c195, c196], []⟩ w := by
  have bx := h.dm.bx
  have cN := h.dm.cN
  have fz := tyOf_frozen h.dm.fm.tF
  have hbI : (bs.length : Int) ≤ 256 := by omega
  have fin := h.setN (bs.length + 1)
  rw [show ((bs.length + 1 : Nat) : Int) = (bs.length : Int) + 1 from by push_cast; rfl] at fin
  have HQQ : Aside _ := hQ
  clear hQ h
  conv => arg 2; whnf
  go_wp2_with fail
  have hQ := HQQ.out
  exact hQ _ _ _ _ _ _ _ fin

set_option maxHeartbeats 4000000 in
set_option maxRecDepth 100000 in
/-- too many entries? -/
theorem dtm4 (F SB EB N M ks ke : Nat) (st : Nat → Nat → Int) (ed : Nat → Nat × Nat) (sta : Nat → Nat) (TB : Nat) (tv : Value) (base : Nat) (bs : List Nat) (cl : Nat → Nat) (v : Value) (nc : Nat) (w0 w : World) (hc : nc ≤ 257) (h : DX F SB EB N M ks ke st ed sta TB tv base bs cl v (.slice none 0 0) nc w0 w) (Q : Exit → Act → World → Prop) (c0 c1 c3 c4 c5 c6 c7 c8 c9 c10 c11 c12 c13 c14 c15 c16 c17 c18 c19 c20 c21 c22 c23 c24 c25 c26 c27 c28 c29 c30 c31 c32 c33 c34 c35 c36 c37 c38 c39 c40 c41 c42 c43 c44 c45 c46 c47 c48 c49 c50 c51 c52 c53 c54 c55 c56 c57 c58 c59 c60 c61 c62 c63 c64 c65 c66 c67 c68 c69 c70 c71 c72 c73 c74 c75 c76 c77 c78 c79 c80 c81 c82 c83 c84 c85 c86 c87 c88 c89 c90 c91 c92 c93 c94 c95 c96 c97 c98 c99 c100 c101 c102 c103 c104 c105 c106 c107 c108 c109 c110 c111 c112 c113 c114 c115 c116 c117 c118 c119 c120 c121 c122 c123 c124 c125 c126 c127 c128 c129 c130 c131 c132 c133 c134 c135 c136 c137 c138 c139 c140 c141 c142 c143 c144 c145 c146 c147 c148 c149 c150 c151 c152 c153 c154 c155 c156 c157 c158 c159 c160 c161 c162 c163 c164 c165 c166 c167 c168 c169 c170 c171 c172 c173 c174 c175 c176 c177 c178 c179 c180 c181 c182 c183 c184 c185 c186 c187 c188 c189 c190 c191 c192 c193 c194 c195 c196 : Value)
    (hR : ∀ (u64 u65 u66 u67 u68 u69 u70 u71 u72 u73 u74 : Value)  (w' : World), DX F SB EB N M ks ke st ed sta TB tv base bs cl v (.slice none 0 0) nc w0 w' → Q .ret ⟨#[c0, c1, .pointer (some ⟨TB, 0, none⟩), c3, c4, c5, c6, c7, c8, c9, c10, c11, c12, c13, c14, c15, c16, c17, c18, c19, c20, c21, c22, c23, c24, c25, c26, c27, c28, c29, c30, c31, c32, c33, c34, c35, c36, c37, c38, c39, c40, c41, c42, c43, c44, c45, c46, c47, c48, c49, c50, c51, c52, c53, c54, c55, c56, c57, c58, c59, c60, c61, c62, c63, u64, u65, u66, u67, u68, u69, u70, u71, u72, u73, u74, c75, c76, c77, c78, c79, c80, c81, c82, c83, c84, c85, c86, c87, c88, c89, c90, c91, c92, c93, c94, c95, c96, c97, c98, c99, c100, c101, c102, c103, c104, c105, c106, c107, c108, c109, c110, c111, c112, c113, c114, c115, c116, c117, c118, c119, c120, c121, c122, c123, c124, c125, c126, c127, c128, c129, c130, c131, c132, c133, c134, c135, c136, c137, c138, c139, c140, c141, c142, c143, c144, c145, c146, c147, c148, c149, c150, c151, c152, c153, c154, c155, c156, c157, c158, c159, c160, c161, c162, c163, c164, c165, c166, c167, c168, c169, c170, c171, c172, c173, c174, c175, c176, c177, c178, c179, c180, c181, c182, c183, c184, c185, c186, c187, c188, c189, c190, c191, c192, c193, c194, c195, c196], []⟩ w')
    (hQ : ∀ (u64 u65 u66 u67 u68 u69 u70 u71 u72 u73 u74 : Value)  (w' : World), DX F SB EB N M ks ke st ed sta TB tv base bs cl v (.slice none 0 0) nc w0 w' → N * nc ≤ 1048576 → Q .normal ⟨#[c0, c1, .pointer (some ⟨TB, 0, none⟩), c3, c4, c5, c6, c7, c8, c9, c10, c11, c12, c13, c14, c15, c16, c17, c18, c19, c20, c21, c22, c23, c24, c25, c26, c27, c28, c29, c30, c31, c32, c33, c34, c35, c36, c37, c38, c39, c40, c41, c42, c43, c44, c45, c46, c47, c48, c49, c50, c51, c52, c53, c54, c55, c56, c57, c58, c59, c60, c61, c62, c63, u64, u65, u66, u67, u68, u69, u70, u71, u72, u73, u74, c75, c76, c77, c78, c79, c80, c81, c82, c83, c84, c85, c86, c87, c88, c89, c90, c91, c92, c93, c94, c95, c96, c97, c98, c99, c100, c101, c102, c103, c104, c105, c106, c107, c108, c109, c110, c111, c112, c113, c114, c115, c116, c117, c118, c119, c120, c121, c122, c123, c124, c125, c126, c127, c128, c129, c130, c131, c132, c133, c134, c135, c136, c137, c138, c139, c140, c141, c142, c143, c144, c145, c146, c147, c148, c149, c150, c151, c152, c153, c154, c155, c156, c157, c158, c159, c160, c161, c162, c163, c164, c165, c166, c167, c168, c169, c170, c171, c172, c173, c174, c175, c176, c177, c178, c179, c180, c181, c182, c183, c184, c185, c186, c187, c188, c189, c190, c191, c192, c193, c194, c195, c196], []⟩ w') :
    Code.wp Yba.prog (dtm 4) Q ⟨#[c0, c1, .pointer (some ⟨TB, 0, none⟩), c3, c4, c5, c6, c7, c8, c9, c10, c11, c12, c13, c14, c15, c16, c17, c18, c19, c20, c21, c22, c23, c24, c25, c26, c27, c28, c29, c30, c31, c32, c33, c34, c35, c36, c37, c38, c39, c40, c41, c42, c43, c44, c45, c46, c47, c48, c49, c50, c51, c52, c53, c54, c55, c56, c57, c58, c59, c60, c61, c62, c63, c64, c65, c66, c67, c68, c69, c70, c71, c72, c73, c74, c75, c76, c77, c78, c79, c80, c81, c82, c83, c84, c85, c86, c87, c88, c89, c90, c91, c92, c93, c94, c95, c96, c97, c98, c99, c100, c101, c102, c103, c104, c105, c106, c107, c108, c109, c110, c111, c112, c113, c114, c115, c116, c117, c118, c119, c120, c121, c122, c123, c124, c125, c126, c127, c128, c129, c130, c131, c132, c133, c134, c135, c136, c137, c138, c139, c140, c141, c142, c143, c144, c145, c146, c147, c148, c149, c150, c151, c152, c153, c154, c155, c156, c157, c158, c159, c160, c161, c162, c163, c164, c165, c166, c167, c168, c169, c170, c171, c172, c173, c174, c175, c176, c177, c178, c179, c180, c181, c182, c183, c184, c185, c186, c187, c188, c189, c190, c191, c192, c193, c194, c195, c196], []⟩ w := by
  have bx := h.dm.bx
  have cN := h.dm.cN
  have cS := h.dm.fm.cS
  have hN6 := h.dm.fm.N6
  have fin := h.new (Below.refl _ _).drew
  have hm : N * nc ≤ 65537 * 257 := Nat.mul_le_mul hN6 hc
  obtain ⟨K, hK⟩ : ∃ K, N * nc = K := ⟨_, rfl⟩
  have hw : IntKind.i64.wrap ((N : Int) * (nc : Int)) = (K : Int) := by rw [← hK, IntKind.wrap_i64]; push_cast at hm ⊢; omega
  rw [hK] at hm
  have HK : Hid (N * nc = K) := hK
  have HQQ : Aside _ := hQ
  have HRR : Aside _ := hR
  clear hQ hR h hK
  conv => arg 2; whnf
  by_cases hbig : 1048576 < K
  · have hbI : (1048576 : Int) < (K : Int) := by omega
    go_wp2_with fail
    go_region_held3 (fun w' => w'.cell? ⟨TB, 0, none⟩ = some (.pointer (some ⟨F, 0, none⟩)) ∧ w'.cell? ⟨F, 516, none⟩ = some (.int .i64 nc) ∧ w'.cell? ⟨F, 1, none⟩ = some (.slice (some ⟨SB, 0, none⟩) N ks)) (go_keep) (fail)
    go_wp2_with fail
    have hR := HRR.out
    exact hR _ _ _ _ _ _ _ _ _ _ _ _ fin
  · have hbI : (K : Int) ≤ (1048576 : Int) := by omega
    go_wp2_with fail
    go_region_held3 (fun w' => w'.cell? ⟨TB, 0, none⟩ = some (.pointer (some ⟨F, 0, none⟩)) ∧ w'.cell? ⟨F, 516, none⟩ = some (.int .i64 nc) ∧ w'.cell? ⟨F, 1, none⟩ = some (.slice (some ⟨SB, 0, none⟩) N ks)) (go_keep) (fail)
    go_wp2_with fail
    have hQ := HQQ.out
    exact hQ _ _ _ _ _ _ _ _ _ _ _ _ fin (by rw [HK.out]; omega)

set_option maxHeartbeats 4000000 in
set_option maxRecDepth 100000 in
/-- the closure -/
theorem dtm5 (TB : Nat) (w : World)  (Q : Exit → Act → World → Prop) (c0 c1 c3 c4 c5 c6 c7 c8 c9 c10 c11 c12 c13 c14 c15 c16 c17 c18 c19 c20 c21 c22 c23 c24 c25 c26 c27 c28 c29 c30 c31 c32 c33 c34 c35 c36 c37 c38 c39 c40 c41 c42 c43 c44 c45 c46 c47 c48 c49 c50 c51 c52 c53 c54 c55 c56 c57 c58 c59 c60 c61 c62 c63 c64 c65 c66 c67 c68 c69 c70 c71 c72 c73 c74 c75 c76 c77 c78 c79 c80 c81 c82 c83 c84 c85 c86 c87 c88 c89 c90 c91 c92 c93 c94 c95 c96 c97 c98 c99 c100 c101 c102 c103 c104 c105 c106 c107 c108 c109 c110 c111 c112 c113 c114 c115 c116 c117 c118 c119 c120 c121 c122 c123 c124 c125 c126 c127 c128 c129 c130 c131 c132 c133 c134 c135 c136 c137 c138 c139 c140 c141 c142 c143 c144 c145 c146 c147 c148 c149 c150 c151 c152 c153 c154 c155 c156 c157 c158 c159 c160 c161 c162 c163 c164 c165 c166 c167 c168 c169 c170 c171 c172 c173 c174 c175 c176 c177 c178 c179 c180 c181 c182 c183 c184 c185 c186 c187 c188 c189 c190 c191 c192 c193 c194 c195 c196 : Value)
    (hQ : ∀ (u75 : Value)  (w' : World), w' = w → Q .normal ⟨#[c0, c1, .pointer (some ⟨TB, 0, none⟩), c3, c4, c5, c6, c7, .func (.func 28) #[] #[.pointer (some ⟨TB, 0, none⟩)], c9, c10, c11, c12, c13, c14, c15, c16, c17, c18, c19, c20, c21, c22, c23, c24, c25, c26, c27, c28, c29, c30, c31, c32, c33, c34, c35, c36, c37, c38, c39, c40, c41, c42, c43, c44, c45, c46, c47, c48, c49, c50, c51, c52, c53, c54, c55, c56, c57, c58, c59, c60, c61, c62, c63, c64, c65, c66, c67, c68, c69, c70, c71, c72, c73, c74, u75, c76, c77, c78, c79, c80, c81, c82, c83, c84, c85, c86, c87, c88, c89, c90, c91, c92, c93, c94, c95, c96, c97, c98, c99, c100, c101, c102, c103, c104, c105, c106, c107, c108, c109, c110, c111, c112, c113, c114, c115, c116, c117, c118, c119, c120, c121, c122, c123, c124, c125, c126, c127, c128, c129, c130, c131, c132, c133, c134, c135, c136, c137, c138, c139, c140, c141, c142, c143, c144, c145, c146, c147, c148, c149, c150, c151, c152, c153, c154, c155, c156, c157, c158, c159, c160, c161, c162, c163, c164, c165, c166, c167, c168, c169, c170, c171, c172, c173, c174, c175, c176, c177, c178, c179, c180, c181, c182, c183, c184, c185, c186, c187, c188, c189, c190, c191, c192, c193, c194, c195, c196], []⟩ w') :
    Code.wp Yba.prog (dtm 5) Q ⟨#[c0, c1, .pointer (some ⟨TB, 0, none⟩), c3, c4, c5, c6, c7, c8, c9, c10, c11, c12, c13, c14, c15, c16, c17, c18, c19, c20, c21, c22, c23, c24, c25, c26, c27, c28, c29, c30, c31, c32, c33, c34, c35, c36, c37, c38, c39, c40, c41, c42, c43, c44, c45, c46, c47, c48, c49, c50, c51, c52, c53, c54, c55, c56, c57, c58, c59, c60, c61, c62, c63, c64, c65, c66, c67, c68, c69, c70, c71, c72, c73, c74, c75, c76, c77, c78, c79, c80, c81, c82, c83, c84, c85, c86, c87, c88, c89, c90, c91, c92, c93, c94, c95, c96, c97, c98, c99, c100, c101, c102, c103, c104, c105, c106, c107, c108, c109, c110, c111, c112, c113, c114, c115, c116, c117, c118, c119, c120, c121, c122, c123, c124, c125, c126, c127, c128, c129, c130, c131, c132, c133, c134, c135, c136, c137, c138, c139, c140, c141, c142, c143, c144, c145, c146, c147, c148, c149, c150, c151, c152, c153, c154, c155, c156, c157, c158, c159, c160, c161, c162, c163, c164, c165, c166, c167, c168, c169, c170, c171, c172, c173, c174, c175, c176, c177, c178, c179, c180, c181, c182, c183, c184, c185, c186, c187, c188, c189, c190, c191, c192, c193, c194, c195, c196], []⟩ w := by
  have HQQ : Aside _ := hQ
  clear hQ
  conv => arg 2; whnf
  go_wp2_with fail
  have hQ := HQQ.out
  exact hQ _ _ rfl

set_option maxHeartbeats 4000000 in
set_option maxRecDepth 100000 in
/-- the dense row is made -/
theorem dtm6 (F SB EB N M ks ke : Nat) (st : Nat → Nat → Int) (ed : Nat → Nat × Nat) (sta : Nat → Nat) (TB : Nat) (tv : Value) (base : Nat) (bs : List Nat) (cl : Nat → Nat) (v : Value) (nc : Nat) (w0 w : World) (hK : N * nc ≤ 1048576) (h : DX F SB EB N M ks ke st ed sta TB tv base bs cl v (.slice none 0 0) nc w0 w) (Q : Exit → Act → World → Prop) (c0 c1 c3 c4 c5 c6 c7 c8 c9 c10 c11 c12 c13 c14 c15 c16 c17 c18 c19 c20 c21 c22 c23 c24 c25 c26 c27 c28 c29 c30 c31 c32 c33 c34 c35 c36 c37 c38 c39 c40 c41 c42 c43 c44 c45 c46 c47 c48 c49 c50 c51 c52 c53 c54 c55 c56 c57 c58 c59 c60 c61 c62 c63 c64 c65 c66 c67 c68 c69 c70 c71 c72 c73 c74 c75 c76 c77 c78 c79 c80 c81 c82 c83 c84 c85 c86 c87 c88 c89 c90 c91 c92 c93 c94 c95 c96 c97 c98 c99 c100 c101 c102 c103 c104 c105 c106 c107 c108 c109 c110 c111 c112 c113 c114 c115 c116 c117 c118 c119 c120 c121 c122 c123 c124 c125 c126 c127 c128 c129 c130 c131 c132 c133 c134 c135 c136 c137 c138 c139 c140 c141 c142 c143 c144 c145 c146 c147 c148 c149 c150 c151 c152 c153 c154 c155 c156 c157 c158 c159 c160 c161 c162 c163 c164 c165 c166 c167 c168 c169 c170 c171 c172 c173 c174 c175 c176 c177 c178 c179 c180 c181 c182 c183 c184 c185 c186 c187 c188 c189 c190 c191 c192 c193 c194 c195 c196 : Value)
    (hQ : ∀ (u76 u77 u78 u79 u80 u81 u82 u83 u84 u85 u86 u87 u88 u89 : Value)  (w' : World), DX F SB EB N M ks ke st ed sta TB tv base bs cl v (.slice (some ⟨w.heap.size, 0, none⟩) (N * nc) (N * nc)) nc w0 w' → RowD w.heap.size (N * nc) (fun _ => 0) w' → Kept (fun k => k = F) w w' → Q .normal ⟨#[c0, c1, .pointer (some ⟨TB, 0, none⟩), c3, c4, c5, c6, c7, c8, c9, c10, c11, c12, c13, c14, c15, c16, c17, c18, c19, c20, c21, c22, c23, c24, c25, c26, c27, c28, c29, c30, c31, c32, c33, c34, c35, c36, c37, c38, c39, c40, c41, c42, c43, c44, c45, c46, c47, c48, c49, c50, c51, c52, c53, c54, c55, c56, c57, c58, c59, c60, c61, c62, c63, c64, c65, c66, c67, c68, c69, c70, c71, c72, c73, c74, c75, u76, u77, u78, u79, u80, u81, u82, u83, u84, u85, u86, u87, u88, u89, c90, c91, c92, c93, c94, c95, c96, c97, c98, c99, c100, c101, c102, c103, c104, c105, c106, c107, c108, c109, c110, c111, c112, c113, c114, c115, c116, c117, c118, c119, c120, c121, c122, c123, c124, c125, c126, c127, c128, c129, c130, c131, c132, c133, c134, c135, c136, c137, c138, c139, c140, c141, c142, c143, c144, c145, c146, c147, c148, c149, c150, c151, c152, c153, c154, c155, c156, c157, c158, c159, c160, c161, c162, c163, c164, c165, c166, c167, c168, c169, c170, c171, c172, c173, c174, c175, c176, c177, c178, c179, c180, c181, c182, c183, c184, c185, c186, c187, c188, c189, c190, c191, c192, c193, c194, c195, c196], []⟩ w') :
    Code.wp Yba.prog (dtm 6) Q ⟨#[c0, c1, .pointer (some ⟨TB, 0, none⟩), c3, c4, c5, c6, c7, c8, c9, c10, c11, c12, c13, c14, c15, c16, c17, c18, c19, c20, c21, c22, c23, c24, c25, c26, c27, c28, c29, c30, c31, c32, c33, c34, c35, c36, c37, c38, c39, c40, c41, c42, c43, c44, c45, c46, c47, c48, c49, c50, c51, c52, c53, c54, c55, c56, c57, c58, c59, c60, c61, c62, c63, c64, c65, c66, c67, c68, c69, c70, c71, c72, c73, c74, c75, c76, c77, c78, c79, c80, c81, c82, c83, c84, c85, c86, c87, c88, c89, c90, c91, c92, c93, c94, c95, c96, c97, c98, c99, c100, c101, c102, c103, c104, c105, c106, c107, c108, c109, c110, c111, c112, c113, c114, c115, c116, c117, c118, c119, c120, c121, c122, c123, c124, c125, c126, c127, c128, c129, c130, c131, c132, c133, c134, c135, c136, c137, c138, c139, c140, c141, c142, c143, c144, c145, c146, c147, c148, c149, c150, c151, c152, c153, c154, c155, c156, c157, c158, c159, c160, c161, c162, c163, c164, c165, c166, c167, c168, c169, c170, c171, c172, c173, c174, c175, c176, c177, c178, c179, c180, c181, c182, c183, c184, c185, c186, c187, c188, c189, c190, c191, c192, c193, c194, c195, c196], []⟩ w := by
  have bx := h.dm.bx
  have cN := h.dm.cN
  have cS := h.dm.fm.cS
  obtain ⟨K, hKe⟩ : ∃ K, N * nc = K := ⟨_, rfl⟩
  have hw : IntKind.i64.wrap ((N : Int) * (nc : Int)) = (K : Int) := by rw [← hKe, IntKind.wrap_i64]; push_cast at hK ⊢; omega
  have HK : Hid (N * nc = K) := hKe
  rw [hKe] at hK
  have m1 := make_delta K hK
  have hal : Below w.heap.size w (w.alloc (.cells (madeCells #[.int .i32 0] K) 21)) := (Below.refl _ w).alloc (Nat.le_refl _) _
  have h2 := h.new hal
  have hr := RowD.made w K
  have hnF : w.heap.size ≠ F := Nat.ne_of_gt (tyOf_lt h.dm.fm.tF)
  have h3 := (h2.setD (.slice (some ⟨w.heap.size, 0, none⟩) K K)).new (Below.refl _ _).drew
  have kF : Kept (fun k => k = F) w ((w.alloc (.cells (madeCells #[.int .i32 0] K) 21)).setCell ⟨F, 259, none⟩ (.slice (some ⟨w.heap.size, 0, none⟩) K K)).drew := (((Kept.of_below hal).weak (S' := fun k => k = F) (fun _ x => x.elim)).setCell rfl _).trans (Kept.new (Below.refl _ _).drew)
  have r3 : RowD w.heap.size K (fun _ => 0) ((w.alloc (.cells (madeCells #[.int .i32 0] K) 21)).setCell ⟨F, 259, none⟩ (.slice (some ⟨w.heap.size, 0, none⟩) K K)).drew := hr.kept (((Kept.refl (fun k => k = F) _).setCell rfl _).trans (Kept.new (Below.refl _ _).drew)) hnF
  have cD := h2.dm.cD
  have fzF := tyOf_frozen h2.dm.fm.tF
  have S1 : (w.alloc (.cells (madeCells #[.int .i32 0] K) 21)).drew.cell? ⟨TB, 0, none⟩ = some (.pointer (some ⟨F, 0, none⟩)) ∧ (w.alloc (.cells (madeCells #[.int .i32 0] K) 21)).drew.cell? ⟨F, 516, none⟩ = some (.int .i64 nc) ∧ (w.alloc (.cells (madeCells #[.int .i32 0] K) 21)).drew.cell? ⟨F, 1, none⟩ = some (.slice (some ⟨SB, 0, none⟩) N ks) := ⟨h2.dm.bx, h2.dm.cN, h2.dm.fm.cS⟩
  have S2 := (⟨h3.dm.bx, h3.dm.cN, h3.dm.fm.cS⟩ : _ ∧ _ ∧ _)
  have HQQ : Aside _ := hQ
  clear hQ h hKe
  conv => arg 2; whnf
  go_wp2_with fail
  go_region_held3 (fun w' => w'.cell? ⟨TB, 0, none⟩ = some (.pointer (some ⟨F, 0, none⟩)) ∧ w'.cell? ⟨F, 516, none⟩ = some (.int .i64 nc) ∧ w'.cell? ⟨F, 1, none⟩ = some (.slice (some ⟨SB, 0, none⟩) N ks)) (first | exact S2 | exact S1 | go_keep) (fail)
  go_wp2_with fail
  have hQ := HQQ.out
  rw [HK.out] at hQ
  exact hQ _ _ _ _ _ _ _ _ _ _ _ _ _ _ _ h3 r3 kF
end Go.Proofs.Ybulkckss
