import Derived.Test.YbulkckssLcp
namespace Go.Proofs.Ybulkckss
open Go.RowKit Go.Lib

/-- the k-th statement of newLiteralFinder -/
def nthS : Nat → Code → Code
  | 0, .seq a _ => a
  | n + 1, .seq _ b => nthS n b
  | _, c => c
noncomputable def stm (k : Nat) : Code := nthS k (Yba.f9.body.getD .skip)

theorem wrap_nat1 {q : Nat} (h : q ≤ 131072) : IntKind.i64.wrap (q : Int) = (q : Int) := by rw [IntKind.wrap_i64]; omega
/-- the row of int32 -/
def Row32 (B n : Nat) (f : Nat → Nat) (w : World) : Prop := tyOf w B = some 21 ∧ ∀ k, k < n → w.cell? ⟨B, k, none⟩ = some (.int .i32 (f k))
theorem Row32.set {B n : Nat} {f : Nat → Nat} {w : World} (h : Row32 B n f w) (i v : Nat) : Row32 B n (fun k => if k = i then v else f k) (w.setCell ⟨B, i, none⟩ (.int .i32 v)) := by
  refine ⟨(set_ty h.1).trans h.1, fun k hk => ?_⟩
  rw [set_cell (h.2 k hk)]
  show _ = some (Value.int .i32 (if k = i then v else f k : Nat))
  by_cases e : k = i
  · rw [if_pos (by rw [e]), if_pos e]
  · rw [if_neg (fun x => by simp only [Addr.mk.injEq, true_and, and_true] at x; exact e x.symm), if_neg e]
theorem Row32.kept {B n : Nat} {f : Nat → Nat} {w w' : World} {S : Nat → Prop} (h : Row32 B n f w) (k : Kept S w w') (hS : ¬ S B) : Row32 B n f w' := by
  have e := k.block B (tyOf_lt h.1) hS
  exact ⟨(tyOf_congr e).trans h.1, fun j hj => (World.cell?_of_block e).trans (h.2 j hj)⟩
theorem Yba.info21 : (Yba.prog.info? 21).map (fun i => (i.zero, i.size, i.bytes)) = some (some (.int .i32 0), 1, 4) := by kernel_rfl

/-- the texts: their slice's value and what it leads to -/
structure TXv (ad : Option Addr) (XB n : Nat) (tx : Nat → ByteArray) (w : World) : Prop where
  ad : 0 < n → ad = some ⟨XB, 0, none⟩ ∧ XB < w.heap.size
  txt : ∀ i, i < n → w.cell? ⟨XB, i, none⟩ = some (.string (tx i))
  sz : ∀ i, i < n → 1 ≤ (tx i).size ∧ (tx i).size ≤ 256
  n6 : n ≤ 256
/-- .. and the variable that holds the slice -/
def Box (TB : Nat) (ad : Option Addr) (n cap : Nat) (w : World) : Prop := tyOf w TB = some 28 ∧ w.cell? ⟨TB, 0, none⟩ = some (.slice ad n cap)
theorem TXv.kept {ad : Option Addr} {XB n : Nat} {tx : Nat → ByteArray} {w w' : World} {S : Nat → Prop} (h : TXv ad XB n tx w) (k : Kept S w w') (hS : 0 < n → ¬ S XB) : TXv ad XB n tx w' :=
  ⟨fun hn => ⟨(h.ad hn).1, Nat.lt_of_lt_of_le (h.ad hn).2 k.size⟩, fun i hi => (World.cell?_of_block (k.block XB (h.ad (by omega)).2 (hS (by omega)))).trans (h.txt i hi), h.sz, h.n6⟩
theorem Box.kept {TB n cap : Nat} {ad : Option Addr} {w w' : World} {S : Nat → Prop} (h : Box TB ad n cap w) (k : Kept S w w') (hS : ¬ S TB) : Box TB ad n cap w' := by
  have e := k.block TB (tyOf_lt h.1) hS
  exact ⟨(tyOf_congr e).trans h.1, (World.cell?_of_block e).trans h.2⟩

set_option maxHeartbeats 4000000 in
set_option maxRecDepth 100000 in
/-- the order is made -/
theorem stm1 (TB n cap : Nat) (ad : Option Addr) (w : World) (hn : n ≤ 256) (hb : Box TB ad n cap w) (Q : Exit → Act → World → Prop) (c0 c2 c3 c4 c5 c6 c7 c8 c9 c10 c11 c12 c13 c14 c15 c16 c17 c18 c19 c20 c21 c22 c23 c24 c25 c26 c27 c28 c29 c30 c31 c32 c33 c34 c35 c36 c37 c38 c39 c40 c41 c42 c43 c44 c45 c46 c47 c48 c49 c50 c51 c52 c53 c54 c55 c56 c57 c58 c59 c60 c61 c62 c63 c64 c65 c66 c67 c68 c69 c70 c71 c72 c73 c74 c75 c76 c77 c78 c79 c80 c81 c82 c83 c84 c85 c86 c87 c88 c89 c90 c91 c92 c93 c94 c95 c96 c97 c98 c99 c100 c101 c102 c103 c104 c105 c106 c107 c108 c109 c110 c111 c112 c113 c114 c115 c116 c117 c118 c119 c120 c121 c122 c123 c124 c125 c126 c127 c128 c129 c130 c131 c132 c133 c134 c135 c136 c137 c138 c139 c140 c141 c142 c143 c144 c145 c146 c147 c148 c149 c150 c151 c152 c153 c154 c155 c156 c157 c158 c159 c160 c161 c162 c163 c164 c165 c166 c167 c168 c169 c170 c171 c172 c173 c174 c175 c176 c177 c178 c179 c180 c181 c182 c183 c184 c185 c186 c187 c188 c189 c190 c191 c192 c193 c194 c195 c196 c197 c198 c199 c200 c201 c202 c203 c204 c205 c206 c207 c208 c209 c210 c211 c212 c213 c214 c215 c216 c217 c218 c219 c220 c221 c222 c223 c224 c225 c226 c227 c228 c229 c230 c231 c232 c233 c234 c235 c236 c237 c238 c239 c240 c241 c242 c243 c244 c245 c246 c247 c248 c249 c250 c251 c252 c253 c254 c255 c256 c257 c258 c259 c260 c261 c262 c263 c264 : Value)
    (hQ : ∀ (u29 u30 u31 : Value)  (w' : World), Row32 w.heap.size n (fun _ => 0) w' → Kept (fun _ => False) w w' → Q .normal ⟨#[c0, .pointer (some ⟨TB, 0, none⟩), c2, .slice (some ⟨w.heap.size, 0, none⟩) n n, c4, c5, c6, c7, c8, c9, c10, c11, c12, c13, c14, c15, c16, c17, c18, c19, c20, c21, c22, c23, c24, c25, c26, c27, c28, u29, u30, u31, c32, c33, c34, c35, c36, c37, c38, c39, c40, c41, c42, c43, c44, c45, c46, c47, c48, c49, c50, c51, c52, c53, c54, c55, c56, c57, c58, c59, c60, c61, c62, c63, c64, c65, c66, c67, c68, c69, c70, c71, c72, c73, c74, c75, c76, c77, c78, c79, c80, c81, c82, c83, c84, c85, c86, c87, c88, c89, c90, c91, c92, c93, c94, c95, c96, c97, c98, c99, c100, c101, c102, c103, c104, c105, c106, c107, c108, c109, c110, c111, c112, c113, c114, c115, c116, c117, c118, c119, c120, c121, c122, c123, c124, c125, c126, c127, c128, c129, c130, c131, c132, c133, c134, c135, c136, c137, c138, c139, c140, c141, c142, c143, c144, c145, c146, c147, c148, c149, c150, c151, c152, c153, c154, c155, c156, c157, c158, c159, c160, c161, c162, c163, c164, c165, c166, c167, c168, c169, c170, c171, c172, c173, c174, c175, c176, c177, c178, c179, c180, c181, c182, c183, c184, c185, c186, c187, c188, c189, c190, c191, c192, c193, c194, c195, c196, c197, c198, c199, c200, c201, c202, c203, c204, c205, c206, c207, c208, c209, c210, c211, c212, c213, c214, c215, c216, c217, c218, c219, c220, c221, c222, c223, c224, c225, c226, c227, c228, c229, c230, c231, c232, c233, c234, c235, c236, c237, c238, c239, c240, c241, c242, c243, c244, c245, c246, c247, c248, c249, c250, c251, c252, c253, c254, c255, c256, c257, c258, c259, c260, c261, c262, c263, c264], []⟩ w') :
    Code.wp Yba.prog (stm 1) Q ⟨#[c0, .pointer (some ⟨TB, 0, none⟩), c2, c3, c4, c5, c6, c7, c8, c9, c10, c11, c12, c13, c14, c15, c16, c17, c18, c19, c20, c21, c22, c23, c24, c25, c26, c27, c28, c29, c30, c31, c32, c33, c34, c35, c36, c37, c38, c39, c40, c41, c42, c43, c44, c45, c46, c47, c48, c49, c50, c51, c52, c53, c54, c55, c56, c57, c58, c59, c60, c61, c62, c63, c64, c65, c66, c67, c68, c69, c70, c71, c72, c73, c74, c75, c76, c77, c78, c79, c80, c81, c82, c83, c84, c85, c86, c87, c88, c89, c90, c91, c92, c93, c94, c95, c96, c97, c98, c99, c100, c101, c102, c103, c104, c105, c106, c107, c108, c109, c110, c111, c112, c113, c114, c115, c116, c117, c118, c119, c120, c121, c122, c123, c124, c125, c126, c127, c128, c129, c130, c131, c132, c133, c134, c135, c136, c137, c138, c139, c140, c141, c142, c143, c144, c145, c146, c147, c148, c149, c150, c151, c152, c153, c154, c155, c156, c157, c158, c159, c160, c161, c162, c163, c164, c165, c166, c167, c168, c169, c170, c171, c172, c173, c174, c175, c176, c177, c178, c179, c180, c181, c182, c183, c184, c185, c186, c187, c188, c189, c190, c191, c192, c193, c194, c195, c196, c197, c198, c199, c200, c201, c202, c203, c204, c205, c206, c207, c208, c209, c210, c211, c212, c213, c214, c215, c216, c217, c218, c219, c220, c221, c222, c223, c224, c225, c226, c227, c228, c229, c230, c231, c232, c233, c234, c235, c236, c237, c238, c239, c240, c241, c242, c243, c244, c245, c246, c247, c248, c249, c250, c251, c252, c253, c254, c255, c256, c257, c258, c259, c260, c261, c262, c263, c264], []⟩ w := by
  have hnI : (n : Int) ≤ 256 := by omega
  obtain ⟨i21, x0, x1, x2, x3⟩ := info_parts Yba.info21
  have c0 := hb.2
  conv => arg 2; whnf
  go_wp2_with (at_make; refine wpList_make_full w rfl (.tmp 30) (.tmp 30) 33 rfl 0 21 i21 (.int .i32 0) 1 Yba.underlying33 x0 x1 x2 .i64 .i64 n n n rfl rfl rfl rfl ?b2 ?b3 ?b4 ?_)
  case b2 => omega
  case b3 => unfold maxLen; omega
  intro w3 ho3 hg3
  rw [toList_madeCells_one] at ho3
  have r : Row32 w.heap.size n (fun _ => 0) w3 := ⟨own_ty ho3 _ rfl, fun k hk => (ho3.cellAt k (by omega)).trans (by rw [List.getElem?_replicate, if_pos hk]; rfl)⟩
  have kk : Kept (fun _ => False) w w3 := kept_grown hg3
  clear ho3 hg3
  go_wp2_with fail
  exact hQ _ _ _ w3 r kk

set_option maxHeartbeats 4000000 in
set_option maxRecDepth 100000 in
/-- the order's numbers are laid -/
theorem stm2 (OB n : Nat) (w : World) (hn : n ≤ 256) (h : Row32 OB n (fun _ => 0) w) (Q : Exit → Act → World → Prop) (c0 c1 c2 c4 c5 c6 c7 c8 c9 c10 c11 c12 c13 c14 c15 c16 c17 c18 c19 c20 c21 c22 c23 c24 c25 c26 c27 c28 c29 c30 c31 c32 c33 c34 c35 c36 c37 c38 c39 c40 c41 c42 c43 c44 c45 c46 c47 c48 c49 c50 c51 c52 c53 c54 c55 c56 c57 c58 c59 c60 c61 c62 c63 c64 c65 c66 c67 c68 c69 c70 c71 c72 c73 c74 c75 c76 c77 c78 c79 c80 c81 c82 c83 c84 c85 c86 c87 c88 c89 c90 c91 c92 c93 c94 c95 c96 c97 c98 c99 c100 c101 c102 c103 c104 c105 c106 c107 c108 c109 c110 c111 c112 c113 c114 c115 c116 c117 c118 c119 c120 c121 c122 c123 c124 c125 c126 c127 c128 c129 c130 c131 c132 c133 c134 c135 c136 c137 c138 c139 c140 c141 c142 c143 c144 c145 c146 c147 c148 c149 c150 c151 c152 c153 c154 c155 c156 c157 c158 c159 c160 c161 c162 c163 c164 c165 c166 c167 c168 c169 c170 c171 c172 c173 c174 c175 c176 c177 c178 c179 c180 c181 c182 c183 c184 c185 c186 c187 c188 c189 c190 c191 c192 c193 c194 c195 c196 c197 c198 c199 c200 c201 c202 c203 c204 c205 c206 c207 c208 c209 c210 c211 c212 c213 c214 c215 c216 c217 c218 c219 c220 c221 c222 c223 c224 c225 c226 c227 c228 c229 c230 c231 c232 c233 c234 c235 c236 c237 c238 c239 c240 c241 c242 c243 c244 c245 c246 c247 c248 c249 c250 c251 c252 c253 c254 c255 c256 c257 c258 c259 c260 c261 c262 c263 c264 : Value)
    (hQ : ∀ (u4 u32 u33 u34 u35 u36 u37 u38 u39 u40 u41 u42 : Value)  (w' : World), Row32 OB n id w' → Kept (fun k => k = OB) w w' → Q .normal ⟨#[c0, c1, c2, .slice (some ⟨OB, 0, none⟩) n n, u4, c5, c6, c7, c8, c9, c10, c11, c12, c13, c14, c15, c16, c17, c18, c19, c20, c21, c22, c23, c24, c25, c26, c27, c28, c29, c30, c31, u32, u33, u34, u35, u36, u37, u38, u39, u40, u41, u42, c43, c44, c45, c46, c47, c48, c49, c50, c51, c52, c53, c54, c55, c56, c57, c58, c59, c60, c61, c62, c63, c64, c65, c66, c67, c68, c69, c70, c71, c72, c73, c74, c75, c76, c77, c78, c79, c80, c81, c82, c83, c84, c85, c86, c87, c88, c89, c90, c91, c92, c93, c94, c95, c96, c97, c98, c99, c100, c101, c102, c103, c104, c105, c106, c107, c108, c109, c110, c111, c112, c113, c114, c115, c116, c117, c118, c119, c120, c121, c122, c123, c124, c125, c126, c127, c128, c129, c130, c131, c132, c133, c134, c135, c136, c137, c138, c139, c140, c141, c142, c143, c144, c145, c146, c147, c148, c149, c150, c151, c152, c153, c154, c155, c156, c157, c158, c159, c160, c161, c162, c163, c164, c165, c166, c167, c168, c169, c170, c171, c172, c173, c174, c175, c176, c177, c178, c179, c180, c181, c182, c183, c184, c185, c186, c187, c188, c189, c190, c191, c192, c193, c194, c195, c196, c197, c198, c199, c200, c201, c202, c203, c204, c205, c206, c207, c208, c209, c210, c211, c212, c213, c214, c215, c216, c217, c218, c219, c220, c221, c222, c223, c224, c225, c226, c227, c228, c229, c230, c231, c232, c233, c234, c235, c236, c237, c238, c239, c240, c241, c242, c243, c244, c245, c246, c247, c248, c249, c250, c251, c252, c253, c254, c255, c256, c257, c258, c259, c260, c261, c262, c263, c264], []⟩ w') :
    Code.wp Yba.prog (stm 2) Q ⟨#[c0, c1, c2, .slice (some ⟨OB, 0, none⟩) n n, c4, c5, c6, c7, c8, c9, c10, c11, c12, c13, c14, c15, c16, c17, c18, c19, c20, c21, c22, c23, c24, c25, c26, c27, c28, c29, c30, c31, c32, c33, c34, c35, c36, c37, c38, c39, c40, c41, c42, c43, c44, c45, c46, c47, c48, c49, c50, c51, c52, c53, c54, c55, c56, c57, c58, c59, c60, c61, c62, c63, c64, c65, c66, c67, c68, c69, c70, c71, c72, c73, c74, c75, c76, c77, c78, c79, c80, c81, c82, c83, c84, c85, c86, c87, c88, c89, c90, c91, c92, c93, c94, c95, c96, c97, c98, c99, c100, c101, c102, c103, c104, c105, c106, c107, c108, c109, c110, c111, c112, c113, c114, c115, c116, c117, c118, c119, c120, c121, c122, c123, c124, c125, c126, c127, c128, c129, c130, c131, c132, c133, c134, c135, c136, c137, c138, c139, c140, c141, c142, c143, c144, c145, c146, c147, c148, c149, c150, c151, c152, c153, c154, c155, c156, c157, c158, c159, c160, c161, c162, c163, c164, c165, c166, c167, c168, c169, c170, c171, c172, c173, c174, c175, c176, c177, c178, c179, c180, c181, c182, c183, c184, c185, c186, c187, c188, c189, c190, c191, c192, c193, c194, c195, c196, c197, c198, c199, c200, c201, c202, c203, c204, c205, c206, c207, c208, c209, c210, c211, c212, c213, c214, c215, c216, c217, c218, c219, c220, c221, c222, c223, c224, c225, c226, c227, c228, c229, c230, c231, c232, c233, c234, c235, c236, c237, c238, c239, c240, c241, c242, c243, c244, c245, c246, c247, c248, c249, c250, c251, c252, c253, c254, c255, c256, c257, c258, c259, c260, c261, c262, c263, c264], []⟩ w := by
  have hnI : (n : Int) ≤ 256 := by omega
  conv => arg 2; whnf
  go_wp2_with fail
  go_loopw [4, 34] (fun _ x wr => ∃ i : Nat, i ≤ n ∧ x = .int .i64 i ∧ Row32 OB n (fun k => if k < i then k else 0) wr ∧ Kept (fun k => k = OB) w wr) (fun _ x _ => 256 - (intOf x).toNat)
  case atStart => exact ⟨0, by omega, rfl, h, Kept.refl _ _⟩
  case round =>
    obtain ⟨i, hi, rfl, hr, hk⟩ := hrel
    by_cases hlt : i < n
    · have hI : (i : Int) < (n : Int) := by omega
      have h0 : (0 : Int) ≤ (i : Int) := by omega
      have c := hr.2 i hlt
      have fz := tyOf_frozen hr.1 i
      have st : Row32 OB n (fun k => if k < i + 1 then k else 0) (wr.setCell ⟨OB, i, none⟩ (.int .i32 i)) := by
        refine ⟨(hr.set i i).1, fun k hk => ((hr.set i i).2 k hk).trans ?_⟩
        show some (Value.int .i32 (if k = i then i else if k < i then k else 0 : Nat)) = some (Value.int .i32 (if k < i + 1 then k else 0 : Nat))
        by_cases e : k = i
        · rw [if_pos e, if_pos (by omega), e]
        · rw [if_neg e]
          by_cases e2 : k < i
          · rw [if_pos e2, if_pos (by omega)]
          · rw [if_neg e2, if_neg (by omega)]
      have kk : Kept (fun k => k = OB) w (wr.setCell ⟨OB, i, none⟩ (.int .i32 i)) := hk.setCell rfl _
      clear hQ
      go_wp2_with fail
      go_roundw
      case rel => exact ⟨i + 1, by omega, by go_num, st, kk⟩
      case measure => simp [intOf]; omega
    · have e : i = n := by omega
      subst e
      have r : Row32 OB i id wr := ⟨hr.1, fun k hk => (hr.2 k hk).trans (by simp only [if_pos hk]; rfl)⟩
      go_wp2_with fail
      exact hQ _ _ _ _ _ _ _ _ _ _ _ _ wr r hk

theorem nodup_of {k : Nat} : (Array.ofFn (n := k + 1) id).toList.Nodup := by
  refine List.pairwise_iff_getElem.2 fun i j hi hj hij => ?_
  rw [Array.getElem_toList, Array.getElem_toList, Array.getElem_ofFn, Array.getElem_ofFn]
  intro e
  have := congrArg Fin.val e
  simp at this
  omega
set_option maxHeartbeats 1000000 in
theorem ins29_zero (p : Option Addr) (cap : Nat) (fv : Value) (w : World) : Calls Yba.prog 29 #[.slice p 0 cap, .int .i64 0, .int .i64 0, fv] w fun e w' => e = .returned (.tuple #[]) ∧ w' = w := by
  go_enter Yba.func29, Yba.ntmps29
  go_wp2_with fail
  refine wp_loop_rounds 1 ?_
  rw [rounds_succ]
  go_wp2_with fail
  go_end0
  exact ⟨rfl, rfl⟩
set_option maxHeartbeats 1000000 in
theorem pdq23_zero (p : Option Addr) (cap : Nat) (l fv : Value) (w : World) : Calls Yba.prog 23 #[.slice p 0 cap, .int .i64 0, .int .i64 0, l, fv] w fun e w' => e = .returned (.tuple #[]) ∧ w' = w := by
  have I := ins29_zero p cap fv w
  go_enter Yba.func23, Yba.ntmps23
  go_wp2_with fail
  refine wp_loop_rounds 1 ?_
  rw [rounds_succ]
  go_wp2_with fail
  refine I.mono ?_
  rintro e w1 ⟨rfl, rfl⟩
  go_wp2_with fail
  (try simp only [Exit.inBlock, Exit.then])
  refine bodyPost_ret (results_none rfl _ _ _) rfl ?_
  exact ⟨rfl, rfl⟩
theorem sort14_zero (p : Option Addr) (cap : Nat) (fv : Value) (w : World) : Calls Yba.prog 14 #[.slice p 0 cap, fv] w fun e w' => e = .returned (.tuple #[]) ∧ w' = w := by
  have L := Yba.bits_Len 0 w (by omega) (by omega)
  have P := fun l : Value => pdq23_zero p cap l fv w
  go_enter Yba.func14, Yba.ntmps14
  go_wp2_with fail
  refine L.mono ?_
  rintro e w1 ⟨rfl, rfl⟩
  go_wp2_with fail
  refine (P _).mono ?_
  rintro e w1 ⟨rfl, rfl⟩
  go_wp2_with fail
  go_end0
  exact ⟨rfl, rfl⟩

theorem fin_perm {k : Nat} {d' : Array (Fin (k + 1))} (hs : d'.size = k + 1) (hp : d'.toList.Perm (Array.ofFn (n := k + 1) id).toList) : (∀ i, i < k + 1 → ∃ j, j < k + 1 ∧ (d'[j]!).val = i) ∧ ∀ i j, i < k + 1 → j < k + 1 → (d'[i]!).val = (d'[j]!).val → i = j := by
  have hget : ∀ j, j < k + 1 → d'.toList[j]? = some (d'[j]!) := fun j hj => by
    rw [Array.getElem?_toList, Array.getElem?_eq_getElem (by omega), getElem!_pos d' j (by omega)]
  refine ⟨fun i hi => ?_, fun i j hi hj e => ?_⟩
  · have hm : (⟨i, hi⟩ : Fin (k + 1)) ∈ d'.toList := hp.mem_iff.2 (List.mem_iff_getElem?.2 ⟨i, by rw [Array.getElem?_toList, Array.getElem?_ofFn]; simp [hi]⟩)
    obtain ⟨j, hj⟩ := List.mem_iff_getElem?.1 hm
    have hl : j < k + 1 := by
      have := (List.getElem?_eq_some_iff.1 hj).1
      simp at this; omega
    rw [hget j hl] at hj
    exact ⟨j, hl, by rw [Option.some.inj hj]⟩
  · have nd : d'.toList.Nodup := hp.nodup_iff.2 nodup_of
    have e2 : d'[i]! = d'[j]! := Fin.ext e
    have h1 := hget i hi
    have h2 := hget j hj
    rw [e2] at h1
    exact (List.getElem?_inj (by simp; omega) nd).1 (h1.trans h2.symm)

set_option maxHeartbeats 4000000 in
set_option maxRecDepth 100000 in
/-- the order is sorted -/
theorem stm3 (TB XB OB n cap : Nat) (ad : Option Addr) (tx : Nat → ByteArray) (w : World) (hx : TXv ad XB n tx w) (hb : Box TB ad n cap w) (h : Row32 OB n id w) (hne : 0 < n → OB ≠ XB) (Q : Exit → Act → World → Prop) (c0 c2 c4 c5 c6 c7 c8 c9 c10 c11 c12 c13 c14 c15 c16 c17 c18 c19 c20 c21 c22 c23 c24 c25 c26 c27 c28 c29 c30 c31 c32 c33 c34 c35 c36 c37 c38 c39 c40 c41 c42 c43 c44 c45 c46 c47 c48 c49 c50 c51 c52 c53 c54 c55 c56 c57 c58 c59 c60 c61 c62 c63 c64 c65 c66 c67 c68 c69 c70 c71 c72 c73 c74 c75 c76 c77 c78 c79 c80 c81 c82 c83 c84 c85 c86 c87 c88 c89 c90 c91 c92 c93 c94 c95 c96 c97 c98 c99 c100 c101 c102 c103 c104 c105 c106 c107 c108 c109 c110 c111 c112 c113 c114 c115 c116 c117 c118 c119 c120 c121 c122 c123 c124 c125 c126 c127 c128 c129 c130 c131 c132 c133 c134 c135 c136 c137 c138 c139 c140 c141 c142 c143 c144 c145 c146 c147 c148 c149 c150 c151 c152 c153 c154 c155 c156 c157 c158 c159 c160 c161 c162 c163 c164 c165 c166 c167 c168 c169 c170 c171 c172 c173 c174 c175 c176 c177 c178 c179 c180 c181 c182 c183 c184 c185 c186 c187 c188 c189 c190 c191 c192 c193 c194 c195 c196 c197 c198 c199 c200 c201 c202 c203 c204 c205 c206 c207 c208 c209 c210 c211 c212 c213 c214 c215 c216 c217 c218 c219 c220 c221 c222 c223 c224 c225 c226 c227 c228 c229 c230 c231 c232 c233 c234 c235 c236 c237 c238 c239 c240 c241 c242 c243 c244 c245 c246 c247 c248 c249 c250 c251 c252 c253 c254 c255 c256 c257 c258 c259 c260 c261 c262 c263 c264 : Value)
    (hQ : ∀ (u43 u44 u45 : Value) (od : Nat → Nat) (w' : World), Row32 OB n od w' → Kept (fun k => k = OB) w w' → (∀ i, i < n → ∃ j, j < n ∧ od j = i) → (∀ j, j < n → od j < n) → (∀ i j, i < n → j < n → od i = od j → i = j) → (∀ i j, i < j → j < n → compareBytes (bl (tx (od i))) (bl (tx (od j))) ≤ 0) → Q .normal ⟨#[c0, .pointer (some ⟨TB, 0, none⟩), c2, .slice (some ⟨OB, 0, none⟩) n n, c4, c5, c6, c7, c8, c9, c10, c11, c12, c13, c14, c15, c16, c17, c18, c19, c20, c21, c22, c23, c24, c25, c26, c27, c28, c29, c30, c31, c32, c33, c34, c35, c36, c37, c38, c39, c40, c41, c42, u43, u44, u45, c46, c47, c48, c49, c50, c51, c52, c53, c54, c55, c56, c57, c58, c59, c60, c61, c62, c63, c64, c65, c66, c67, c68, c69, c70, c71, c72, c73, c74, c75, c76, c77, c78, c79, c80, c81, c82, c83, c84, c85, c86, c87, c88, c89, c90, c91, c92, c93, c94, c95, c96, c97, c98, c99, c100, c101, c102, c103, c104, c105, c106, c107, c108, c109, c110, c111, c112, c113, c114, c115, c116, c117, c118, c119, c120, c121, c122, c123, c124, c125, c126, c127, c128, c129, c130, c131, c132, c133, c134, c135, c136, c137, c138, c139, c140, c141, c142, c143, c144, c145, c146, c147, c148, c149, c150, c151, c152, c153, c154, c155, c156, c157, c158, c159, c160, c161, c162, c163, c164, c165, c166, c167, c168, c169, c170, c171, c172, c173, c174, c175, c176, c177, c178, c179, c180, c181, c182, c183, c184, c185, c186, c187, c188, c189, c190, c191, c192, c193, c194, c195, c196, c197, c198, c199, c200, c201, c202, c203, c204, c205, c206, c207, c208, c209, c210, c211, c212, c213, c214, c215, c216, c217, c218, c219, c220, c221, c222, c223, c224, c225, c226, c227, c228, c229, c230, c231, c232, c233, c234, c235, c236, c237, c238, c239, c240, c241, c242, c243, c244, c245, c246, c247, c248, c249, c250, c251, c252, c253, c254, c255, c256, c257, c258, c259, c260, c261, c262, c263, c264], []⟩ w') :
    Code.wp Yba.prog (stm 3) Q ⟨#[c0, .pointer (some ⟨TB, 0, none⟩), c2, .slice (some ⟨OB, 0, none⟩) n n, c4, c5, c6, c7, c8, c9, c10, c11, c12, c13, c14, c15, c16, c17, c18, c19, c20, c21, c22, c23, c24, c25, c26, c27, c28, c29, c30, c31, c32, c33, c34, c35, c36, c37, c38, c39, c40, c41, c42, c43, c44, c45, c46, c47, c48, c49, c50, c51, c52, c53, c54, c55, c56, c57, c58, c59, c60, c61, c62, c63, c64, c65, c66, c67, c68, c69, c70, c71, c72, c73, c74, c75, c76, c77, c78, c79, c80, c81, c82, c83, c84, c85, c86, c87, c88, c89, c90, c91, c92, c93, c94, c95, c96, c97, c98, c99, c100, c101, c102, c103, c104, c105, c106, c107, c108, c109, c110, c111, c112, c113, c114, c115, c116, c117, c118, c119, c120, c121, c122, c123, c124, c125, c126, c127, c128, c129, c130, c131, c132, c133, c134, c135, c136, c137, c138, c139, c140, c141, c142, c143, c144, c145, c146, c147, c148, c149, c150, c151, c152, c153, c154, c155, c156, c157, c158, c159, c160, c161, c162, c163, c164, c165, c166, c167, c168, c169, c170, c171, c172, c173, c174, c175, c176, c177, c178, c179, c180, c181, c182, c183, c184, c185, c186, c187, c188, c189, c190, c191, c192, c193, c194, c195, c196, c197, c198, c199, c200, c201, c202, c203, c204, c205, c206, c207, c208, c209, c210, c211, c212, c213, c214, c215, c216, c217, c218, c219, c220, c221, c222, c223, c224, c225, c226, c227, c228, c229, c230, c231, c232, c233, c234, c235, c236, c237, c238, c239, c240, c241, c242, c243, c244, c245, c246, c247, c248, c249, c250, c251, c252, c253, c254, c255, c256, c257, c258, c259, c260, c261, c262, c263, c264], []⟩ w := by
  have hT : OB ≠ TB := tyOf_ne h.1 hb.1 (by decide)
  have hn6 := hx.n6
  conv => arg 2; whnf
  by_cases n0 : n = 0
  · subst n0
    have S := sort14_zero (some ⟨OB, 0, none⟩) 0 (.func (.func 15) #[] #[.pointer (some ⟨TB, 0, none⟩)]) w
    have r : Row32 OB 0 id w := h
    clear hx hb h
    go_wp2_with fail
    refine S.mono ?_
    rintro e w1 ⟨rfl, rfl⟩
    go_wp2_with fail
    exact hQ _ _ _ id w1 r (Kept.refl _ _) (fun i hi => ⟨i, hi, rfl⟩) (fun j hj => hj) (fun i j _ _ e => e) (fun i j hij hj => by omega)
  · obtain ⟨k, rfl⟩ : ∃ k, n = k + 1 := ⟨n - 1, by omega⟩
    obtain ⟨rfl, hX⟩ := hx.ad (by omega)
    have hTX : TX TB XB (k + 1) cap tx w := ⟨hb.2, hx.txt, tyOf_lt hb.1, hX⟩
    have hO : ∀ j, j < k + 1 → w.cell? ⟨OB, j, none⟩ = some (.int .i32 ((Array.ofFn (n := k + 1) id)[j]!).val) := fun j hj => by
      rw [h.2 j hj, getElem!_pos _ j (by simpa using hj)]
      simp
    have S := order_call (capO := k + 1) hTX (Array.ofFn (n := k + 1) id) (by simp) h.1 hO hT (hne (by omega)) (by omega)
    clear hO
    go_wp2_with fail
    refine S.mono ?_
    rintro e w1 ⟨rfl, d', hs, kk, ty, hc, hp, hsort⟩
    obtain ⟨p1, p2⟩ := fin_perm hs hp
    clear S hp
    go_wp2_with fail
    exact hQ _ _ _ (fun j => (d'[j]!).val) w1 ⟨ty, hc⟩ kk p1 (fun j _ => (d'[j]!).isLt) p2 hsort

set_option maxHeartbeats 4000000 in
set_option maxRecDepth 100000 in
/-- the count begins -/
theorem stm4 (w : World)  (Q : Exit → Act → World → Prop) (c0 c1 c2 c3 c4 c5 c6 c7 c8 c9 c10 c11 c12 c13 c14 c15 c16 c17 c18 c19 c20 c21 c22 c23 c24 c25 c26 c27 c28 c29 c30 c31 c32 c33 c34 c35 c36 c37 c38 c39 c40 c41 c42 c43 c44 c45 c46 c47 c48 c49 c50 c51 c52 c53 c54 c55 c56 c57 c58 c59 c60 c61 c62 c63 c64 c65 c66 c67 c68 c69 c70 c71 c72 c73 c74 c75 c76 c77 c78 c79 c80 c81 c82 c83 c84 c85 c86 c87 c88 c89 c90 c91 c92 c93 c94 c95 c96 c97 c98 c99 c100 c101 c102 c103 c104 c105 c106 c107 c108 c109 c110 c111 c112 c113 c114 c115 c116 c117 c118 c119 c120 c121 c122 c123 c124 c125 c126 c127 c128 c129 c130 c131 c132 c133 c134 c135 c136 c137 c138 c139 c140 c141 c142 c143 c144 c145 c146 c147 c148 c149 c150 c151 c152 c153 c154 c155 c156 c157 c158 c159 c160 c161 c162 c163 c164 c165 c166 c167 c168 c169 c170 c171 c172 c173 c174 c175 c176 c177 c178 c179 c180 c181 c182 c183 c184 c185 c186 c187 c188 c189 c190 c191 c192 c193 c194 c195 c196 c197 c198 c199 c200 c201 c202 c203 c204 c205 c206 c207 c208 c209 c210 c211 c212 c213 c214 c215 c216 c217 c218 c219 c220 c221 c222 c223 c224 c225 c226 c227 c228 c229 c230 c231 c232 c233 c234 c235 c236 c237 c238 c239 c240 c241 c242 c243 c244 c245 c246 c247 c248 c249 c250 c251 c252 c253 c254 c255 c256 c257 c258 c259 c260 c261 c262 c263 c264 : Value)
    (hQ : ∀   (w' : World), w' = w → Q .normal ⟨#[c0, c1, c2, c3, c4, .int .i64 0, .string ⟨#[]⟩, c7, c8, c9, c10, c11, c12, c13, c14, c15, c16, c17, c18, c19, c20, c21, c22, c23, c24, c25, c26, c27, c28, c29, c30, c31, c32, c33, c34, c35, c36, c37, c38, c39, c40, c41, c42, c43, c44, c45, c46, c47, c48, c49, c50, c51, c52, c53, c54, c55, c56, c57, c58, c59, c60, c61, c62, c63, c64, c65, c66, c67, c68, c69, c70, c71, c72, c73, c74, c75, c76, c77, c78, c79, c80, c81, c82, c83, c84, c85, c86, c87, c88, c89, c90, c91, c92, c93, c94, c95, c96, c97, c98, c99, c100, c101, c102, c103, c104, c105, c106, c107, c108, c109, c110, c111, c112, c113, c114, c115, c116, c117, c118, c119, c120, c121, c122, c123, c124, c125, c126, c127, c128, c129, c130, c131, c132, c133, c134, c135, c136, c137, c138, c139, c140, c141, c142, c143, c144, c145, c146, c147, c148, c149, c150, c151, c152, c153, c154, c155, c156, c157, c158, c159, c160, c161, c162, c163, c164, c165, c166, c167, c168, c169, c170, c171, c172, c173, c174, c175, c176, c177, c178, c179, c180, c181, c182, c183, c184, c185, c186, c187, c188, c189, c190, c191, c192, c193, c194, c195, c196, c197, c198, c199, c200, c201, c202, c203, c204, c205, c206, c207, c208, c209, c210, c211, c212, c213, c214, c215, c216, c217, c218, c219, c220, c221, c222, c223, c224, c225, c226, c227, c228, c229, c230, c231, c232, c233, c234, c235, c236, c237, c238, c239, c240, c241, c242, c243, c244, c245, c246, c247, c248, c249, c250, c251, c252, c253, c254, c255, c256, c257, c258, c259, c260, c261, c262, c263, c264], []⟩ w') :
    Code.wp Yba.prog (stm 4) Q ⟨#[c0, c1, c2, c3, c4, c5, c6, c7, c8, c9, c10, c11, c12, c13, c14, c15, c16, c17, c18, c19, c20, c21, c22, c23, c24, c25, c26, c27, c28, c29, c30, c31, c32, c33, c34, c35, c36, c37, c38, c39, c40, c41, c42, c43, c44, c45, c46, c47, c48, c49, c50, c51, c52, c53, c54, c55, c56, c57, c58, c59, c60, c61, c62, c63, c64, c65, c66, c67, c68, c69, c70, c71, c72, c73, c74, c75, c76, c77, c78, c79, c80, c81, c82, c83, c84, c85, c86, c87, c88, c89, c90, c91, c92, c93, c94, c95, c96, c97, c98, c99, c100, c101, c102, c103, c104, c105, c106, c107, c108, c109, c110, c111, c112, c113, c114, c115, c116, c117, c118, c119, c120, c121, c122, c123, c124, c125, c126, c127, c128, c129, c130, c131, c132, c133, c134, c135, c136, c137, c138, c139, c140, c141, c142, c143, c144, c145, c146, c147, c148, c149, c150, c151, c152, c153, c154, c155, c156, c157, c158, c159, c160, c161, c162, c163, c164, c165, c166, c167, c168, c169, c170, c171, c172, c173, c174, c175, c176, c177, c178, c179, c180, c181, c182, c183, c184, c185, c186, c187, c188, c189, c190, c191, c192, c193, c194, c195, c196, c197, c198, c199, c200, c201, c202, c203, c204, c205, c206, c207, c208, c209, c210, c211, c212, c213, c214, c215, c216, c217, c218, c219, c220, c221, c222, c223, c224, c225, c226, c227, c228, c229, c230, c231, c232, c233, c234, c235, c236, c237, c238, c239, c240, c241, c242, c243, c244, c245, c246, c247, c248, c249, c250, c251, c252, c253, c254, c255, c256, c257, c258, c259, c260, c261, c262, c263, c264], []⟩ w := by
  have HQQ : Aside _ := hQ
  clear hQ
  conv => arg 2; whnf
  go_wp2_with fail
  have hQ := HQQ.out
  exact hQ  w rfl

set_option maxHeartbeats 4000000 in
set_option maxRecDepth 100000 in
/-- how many states there will be -/
theorem stm5 (TB XB OB n cap : Nat) (ad : Option Addr) (tx : Nat → ByteArray) (od : Nat → Nat) (w : World) (hx : TXv ad XB n tx w) (hb : Box TB ad n cap w) (h : Row32 OB n od w) (hod : ∀ j, j < n → od j < n) (Q : Exit → Act → World → Prop) (c0 c2 c4 c7 c8 c9 c10 c11 c12 c13 c14 c15 c16 c17 c18 c19 c20 c21 c22 c23 c24 c25 c26 c27 c28 c29 c30 c31 c32 c33 c34 c35 c36 c37 c38 c39 c40 c41 c42 c43 c44 c45 c46 c47 c48 c49 c50 c51 c52 c53 c54 c55 c56 c57 c58 c59 c60 c61 c62 c63 c64 c65 c66 c67 c68 c69 c70 c71 c72 c73 c74 c75 c76 c77 c78 c79 c80 c81 c82 c83 c84 c85 c86 c87 c88 c89 c90 c91 c92 c93 c94 c95 c96 c97 c98 c99 c100 c101 c102 c103 c104 c105 c106 c107 c108 c109 c110 c111 c112 c113 c114 c115 c116 c117 c118 c119 c120 c121 c122 c123 c124 c125 c126 c127 c128 c129 c130 c131 c132 c133 c134 c135 c136 c137 c138 c139 c140 c141 c142 c143 c144 c145 c146 c147 c148 c149 c150 c151 c152 c153 c154 c155 c156 c157 c158 c159 c160 c161 c162 c163 c164 c165 c166 c167 c168 c169 c170 c171 c172 c173 c174 c175 c176 c177 c178 c179 c180 c181 c182 c183 c184 c185 c186 c187 c188 c189 c190 c191 c192 c193 c194 c195 c196 c197 c198 c199 c200 c201 c202 c203 c204 c205 c206 c207 c208 c209 c210 c211 c212 c213 c214 c215 c216 c217 c218 c219 c220 c221 c222 c223 c224 c225 c226 c227 c228 c229 c230 c231 c232 c233 c234 c235 c236 c237 c238 c239 c240 c241 c242 c243 c244 c245 c246 c247 c248 c249 c250 c251 c252 c253 c254 c255 c256 c257 c258 c259 c260 c261 c262 c263 c264 : Value)
    (hQ : ∀ (u6 u8 u46 u47 u48 u49 u50 u51 u52 u53 u54 u55 u56 u57 u58 u59 u60 u61 u62 u63 u64 u65 u66 u67 u68 u69 u70 : Value) (A : Nat) (w' : World), A ≤ 65536 → Kept (fun _ => False) w w' → Q .normal ⟨#[c0, .pointer (some ⟨TB, 0, none⟩), c2, .slice (some ⟨OB, 0, none⟩) n n, c4, .int .i64 A, u6, c7, u8, c9, c10, c11, c12, c13, c14, c15, c16, c17, c18, c19, c20, c21, c22, c23, c24, c25, c26, c27, c28, c29, c30, c31, c32, c33, c34, c35, c36, c37, c38, c39, c40, c41, c42, c43, c44, c45, u46, u47, u48, u49, u50, u51, u52, u53, u54, u55, u56, u57, u58, u59, u60, u61, u62, u63, u64, u65, u66, u67, u68, u69, u70, c71, c72, c73, c74, c75, c76, c77, c78, c79, c80, c81, c82, c83, c84, c85, c86, c87, c88, c89, c90, c91, c92, c93, c94, c95, c96, c97, c98, c99, c100, c101, c102, c103, c104, c105, c106, c107, c108, c109, c110, c111, c112, c113, c114, c115, c116, c117, c118, c119, c120, c121, c122, c123, c124, c125, c126, c127, c128, c129, c130, c131, c132, c133, c134, c135, c136, c137, c138, c139, c140, c141, c142, c143, c144, c145, c146, c147, c148, c149, c150, c151, c152, c153, c154, c155, c156, c157, c158, c159, c160, c161, c162, c163, c164, c165, c166, c167, c168, c169, c170, c171, c172, c173, c174, c175, c176, c177, c178, c179, c180, c181, c182, c183, c184, c185, c186, c187, c188, c189, c190, c191, c192, c193, c194, c195, c196, c197, c198, c199, c200, c201, c202, c203, c204, c205, c206, c207, c208, c209, c210, c211, c212, c213, c214, c215, c216, c217, c218, c219, c220, c221, c222, c223, c224, c225, c226, c227, c228, c229, c230, c231, c232, c233, c234, c235, c236, c237, c238, c239, c240, c241, c242, c243, c244, c245, c246, c247, c248, c249, c250, c251, c252, c253, c254, c255, c256, c257, c258, c259, c260, c261, c262, c263, c264], []⟩ w') :
    Code.wp Yba.prog (stm 5) Q ⟨#[c0, .pointer (some ⟨TB, 0, none⟩), c2, .slice (some ⟨OB, 0, none⟩) n n, c4, .int .i64 0, .string ⟨#[]⟩, c7, c8, c9, c10, c11, c12, c13, c14, c15, c16, c17, c18, c19, c20, c21, c22, c23, c24, c25, c26, c27, c28, c29, c30, c31, c32, c33, c34, c35, c36, c37, c38, c39, c40, c41, c42, c43, c44, c45, c46, c47, c48, c49, c50, c51, c52, c53, c54, c55, c56, c57, c58, c59, c60, c61, c62, c63, c64, c65, c66, c67, c68, c69, c70, c71, c72, c73, c74, c75, c76, c77, c78, c79, c80, c81, c82, c83, c84, c85, c86, c87, c88, c89, c90, c91, c92, c93, c94, c95, c96, c97, c98, c99, c100, c101, c102, c103, c104, c105, c106, c107, c108, c109, c110, c111, c112, c113, c114, c115, c116, c117, c118, c119, c120, c121, c122, c123, c124, c125, c126, c127, c128, c129, c130, c131, c132, c133, c134, c135, c136, c137, c138, c139, c140, c141, c142, c143, c144, c145, c146, c147, c148, c149, c150, c151, c152, c153, c154, c155, c156, c157, c158, c159, c160, c161, c162, c163, c164, c165, c166, c167, c168, c169, c170, c171, c172, c173, c174, c175, c176, c177, c178, c179, c180, c181, c182, c183, c184, c185, c186, c187, c188, c189, c190, c191, c192, c193, c194, c195, c196, c197, c198, c199, c200, c201, c202, c203, c204, c205, c206, c207, c208, c209, c210, c211, c212, c213, c214, c215, c216, c217, c218, c219, c220, c221, c222, c223, c224, c225, c226, c227, c228, c229, c230, c231, c232, c233, c234, c235, c236, c237, c238, c239, c240, c241, c242, c243, c244, c245, c246, c247, c248, c249, c250, c251, c252, c253, c254, c255, c256, c257, c258, c259, c260, c261, c262, c263, c264], []⟩ w := by
  have hn6 := hx.n6
  have hnI : (n : Int) ≤ 256 := by omega
  have HOD : Aside _ := hod
  have HQQ : Aside _ := hQ
  clear hod hQ
  conv => arg 2; whnf
  go_wp2_with fail
  go_loopw [5, 6, 8, 48] (fun x y _ z wr => ∃ (i A : Nat) (p : ByteArray), i ≤ n ∧ A ≤ i * 256 ∧ p.size ≤ 256 ∧ z = .int .i64 i ∧ x = .int .i64 A ∧ y = .string p ∧ Kept (fun _ => False) w wr) (fun _ _ _ z _ => 256 - (intOf z).toNat)
  case atStart => exact ⟨0, 0, ⟨#[]⟩, by omega, by omega, by decide, rfl, rfl, rfl, Kept.refl _ _⟩
  case round =>
    obtain ⟨i, A, p, hi, hA, hp, rfl, rfl, rfl, hk⟩ := hrel
    by_cases hlt : i < n
    · have hr := h.kept hk (fun x => x)
      have hbx := hb.kept hk (fun x => x)
      have htx := hx.kept hk (fun _ x => x)
      obtain ⟨rfl, hX⟩ := htx.ad (by omega)
      have hod := HOD.out i hlt
      have hI : (i : Int) < (n : Int) := by omega
      have h0 : (0 : Int) ≤ (i : Int) := by omega
      have co := hr.2 i hlt
      have cb := hbx.2
      have ct := htx.txt (od i) hod
      obtain ⟨z1, z2⟩ := htx.sz (od i) hod
      have o1 : (od i : Int) < (n : Int) := by omega
      have o0 : (0 : Int) ≤ (od i : Int) := by omega
      have z2I : ((tx (od i)).size : Int) ≤ 256 := by omega
      have hAI : (A : Int) ≤ 65536 := by omega
      have L := lcp_call p (tx (od i)) wr.drew hp z2
      go_wp2_with fail
      go_region_held3 (fun w' => w'.cell? ⟨TB, 0, none⟩ = some (.slice (some ⟨XB, 0, none⟩) n cap) ∧ w'.cell? ⟨XB, od i, none⟩ = some (.string (tx (od i))))
        (first | go_keep | exact ⟨d1, d2⟩)
        (first | (go_at_call 17; refine L.mono ?_; rintro e w1 ⟨m, rfl, hm, hbel⟩; have hk1 : Kept (fun _ => False) wr w1 := Kept.of_below ((Below.refl wr.heap.size wr).drew.trans hbel); have d1 := (hbx.kept hk1 (fun x => x)).2; have d2 := (htx.kept hk1 (fun _ x => x)).txt (od i) hod))
      have hm2 : m ≤ (tx (od i)).size := by have := hm.lb; simpa using this
      obtain ⟨q, hq⟩ : ∃ q : Nat, ((tx (od i)).size : Int) - (m : Int) = (q : Int) := ⟨(tx (od i)).size - m, by omega⟩
      have hq2 : q ≤ 256 := by omega
      have e4 : Hid (IntKind.i64.wrap ((A : Int) + IntKind.i64.wrap (((tx (od i)).size : Int) - (m : Int))) = ((A + q : Nat) : Int)) := by
        show _ = _
        rw [hq, wrap_nat1 (by omega), show (A : Int) + (q : Int) = ((A + q : Nat) : Int) from by omega]
        exact wrap_nat1 (by omega)
      have kk := hk.trans hk1
      clear hq
      clear L hr hbx htx hk hk1
      go_wp2_with fail
      go_roundw
      case rel => exact ⟨i + 1, A + q, tx (od i), by omega, by omega, z2, by go_num, by rw [e4.out], rfl, kk⟩
      case measure => simp [intOf]; omega
    · have e : i = n := by omega
      subst e
      have hA2 : A ≤ 65536 := by omega
      have hQ := HQQ.out
      clear HQQ
      go_wp2_with fail
      exact hQ _ _ _ _ _ _ _ _ _ _ _ _ _ _ _ _ _ _ _ _ _ _ _ _ _ _ _ A wr hA2 hk
end Go.Proofs.Ybulkckss
