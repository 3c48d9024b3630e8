import Derived.Test.YbulkckssSt5
import Derived.Test.YbulkckssBfs
import Derived.Deep.MidRow
namespace Go.Proofs.Ybulkckss
open Go.RowKit Go.Lib

/-- the numbers of a list, as cells -/
def iL (q : List Nat) : List Value := q.map fun (s : Nat) => Value.int .i32 s
theorem iL_len (q : List Nat) : (iL q).length = q.length := by simp [iL]
theorem iL_snoc (q : List Nat) (t : Nat) : iL q ++ [.int .i32 t] = iL (q ++ [t]) := by simp [iL]
theorem iL_get {q : List Nat} {i s : Nat} (h : q[i]? = some s) : (iL q)[i]? = some (.int .i32 s) := by simp [iL, h]
theorem ND.nodup {q : List Nat} (h : ND q) : q.Nodup := by
  refine List.pairwise_iff_getElem.2 fun i j hi hj hij e => ?_
  have := h i j q[i] (List.getElem?_eq_getElem hi) (by rw [e]; exact List.getElem?_eq_getElem hj)
  omega
theorem nodup_len : ∀ (N : Nat) (q : List Nat), q.Nodup → (∀ s, s ∈ q → s < N) → q.length ≤ N := by
  intro N
  induction N with
  | zero =>
    intro q _ h
    cases q with
    | nil => simp
    | cons a l => have := h a (List.mem_cons_self ..); omega
  | succ N ih =>
    intro q nd h
    have h1 := ih (q.erase N) (nd.erase N) (fun s hs => by
      rw [nd.mem_erase_iff] at hs
      have := h s hs.2
      omega)
    by_cases c : N ∈ q
    · rw [List.length_erase_of_mem c] at h1; omega
    · rw [List.erase_of_not_mem c] at h1; omega

/-- the finder as its states are linked: L those that are; q the queue, v its value -/
structure LK (F SB EB N M ks ke : Nat) (st0 : Nat → Nat → Int) (ed : Nat → Nat × Nat) (sta : Nat → Nat) (wd : Nat → List Nat) (L : Nat → Prop) (q : List Nat) (v : Value) (w0 w : World) : Prop where
  out : ∃ st, FM F SB EB N M ks ke st ed sta w ∧ (∀ s f, f < 2 ∨ s = 0 → st s f = st0 s f) ∧ (∀ s, L s → ∃ f : Nat, st s 2 = f ∧ LP N wd (wd s) f)
  row : w.ownsRow w0.heap.size 21 1 v q.length (iL q)
  kept : Kept (fun k => k = SB) w0 w
section
variable {F SB EB N M ks ke : Nat} {st0 : Nat → Nat → Int} {ed : Nat → Nat × Nat} {sta : Nat → Nat} {wd : Nat → List Nat} {L : Nat → Prop} {q : List Nat} {v : Value} {w0 w w' : World}
theorem LK.link {st : Nat → Nat → Int} {t r : Nat} (h : LK F SB EB N M ks ke st0 ed sta wd L q v w0 w) (t0 : 0 < t) (h1 : ∀ s f, f < 2 ∨ s = 0 → st s f = st0 s f) (h2 : ∀ s, L s → ∃ f : Nat, st s 2 = f ∧ LP N wd (wd s) f) (tS : tyOf w SB = some 47) (l : Lnk F SB EB N M ks ke st ed sta t r w w') (hp : LP N wd (wd t) r) :
    LK F SB EB N M ks ke st0 ed sta wd (fun s => L s ∨ s = t) q v w0 w' := by
  obtain ⟨st', f', e2, ee, kk⟩ := l.out
  refine ⟨⟨st', f', fun s f hf => (ee s f (fun x => by omega)).trans (h1 s f hf), fun s hs => ?_⟩, kk.owns h.row (fun g hg e => ?_), h.kept.trans kk⟩
  · by_cases c : s = t
    · subst c; exact ⟨r, e2, hp⟩
    · obtain ⟨f, e1, e3⟩ := h2 s (hs.resolve_right c)
      exact ⟨f, (ee s 2 (fun x => c x.1)).trans e1, e3⟩
  · have := own_ty h.row g hg
    rw [e, tS] at this
    cases this
theorem LK.new (h : LK F SB EB N M ks ke st0 ed sta wd L q v w0 w) (b : Below w.heap.size w w') : LK F SB EB N M ks ke st0 ed sta wd L q v w0 w' := by
  obtain ⟨⟨st, f, h1, h2⟩, hr, hk⟩ := h
  exact ⟨⟨st, f.new b, h1, h2⟩, (Kept.of_below b).owns hr (fun _ _ x => x), hk.trans ((Kept.of_below b).weak (fun _ x => x.elim))⟩
/-- behind an append -/
theorem LK.push {v' : Value} {t : Nat} (h : LK F SB EB N M ks ke st0 ed sta wd L q v w0 w) (k : Kept (fun j => v.ownBlock = some j) w w') (ho : w'.ownsRow w0.heap.size 21 1 v' (q.length + 1) (iL q ++ [.int .i32 t])) :
    LK F SB EB N M ks ke st0 ed sta wd L (q ++ [t]) v' w0 w' := by
  obtain ⟨⟨st, f, h1, h2⟩, hr, hk⟩ := h
  have n1 : ∀ g T, tyOf w g = some T → T ≠ 21 → ¬ v.ownBlock = some g := fun g T hT hn e => by
    have := own_ty hr g e
    rw [hT] at this
    exact hn (Option.some.inj this)
  refine ⟨⟨st, f.kept k (n1 _ _ f.tF (by decide)) (n1 _ _ f.tS (by decide)) (n1 _ _ f.tE (by decide)), h1, h2⟩, ?_, ?_⟩
  · rw [iL_snoc] at ho
    rw [List.length_append]
    exact ho
  · exact ⟨k.os.trans hk.os, k.tape.trans hk.tape, k.output.trans hk.output, Nat.le_trans hk.size k.size, fun j hj hS => (k.block j (Nat.lt_of_lt_of_le hj hk.size) (fun e => by have := own_le hr j e; omega)).trans (hk.block j hj hS)⟩
end
theorem index32 {cs : Array Value} {i : Nat} {x : Int} {w : World} (hi : i < 256) (h : cs[i]? = some (.int .i32 x)) :
    (Instr.index 32 (.agg cs) (.int .i64 i)).run Yba.prog w = .ok (.int .i32 x) w := by
  have h0 : (0 : Int) ≤ i ∧ (i : Int) < (256 : Nat) := by omega
  simp [Instr.index, run_underlying Yba.underlying32, asIntOf, h0, go_sem, h]
  intro h1
  omega
theorem size32 : (Yba.prog.info? 32).map (·.size) = some 256 := by kernel_rfl

set_option maxHeartbeats 4000000 in
set_option maxRecDepth 100000 in
/-- the queue is made -/
theorem stm14 (A : Nat) (w : World) (hA : A ≤ 65536) (Q : Exit → Act → World → Prop) (c0 c1 c2 c3 c4 c6 c7 c8 c9 c10 c11 c12 c13 c14 c15 c16 c17 c18 c19 c20 c21 c22 c23 c24 c25 c26 c27 c28 c29 c30 c31 c32 c33 c34 c35 c36 c37 c38 c39 c40 c41 c42 c43 c44 c45 c46 c47 c48 c49 c50 c51 c52 c53 c54 c55 c56 c57 c58 c59 c60 c61 c62 c63 c64 c65 c66 c67 c68 c69 c70 c71 c72 c73 c74 c75 c76 c77 c78 c79 c80 c81 c82 c83 c84 c85 c86 c87 c88 c89 c90 c91 c92 c93 c94 c95 c96 c97 c98 c99 c100 c101 c102 c103 c104 c105 c106 c107 c108 c109 c110 c111 c112 c113 c114 c115 c116 c117 c118 c119 c120 c121 c122 c123 c124 c125 c126 c127 c128 c129 c130 c131 c132 c133 c134 c135 c136 c137 c138 c139 c140 c141 c142 c143 c144 c145 c146 c147 c148 c149 c150 c151 c152 c153 c154 c155 c156 c157 c158 c159 c160 c161 c162 c163 c164 c165 c166 c167 c168 c169 c170 c171 c172 c173 c174 c175 c176 c177 c178 c179 c180 c181 c182 c183 c184 c185 c186 c187 c188 c189 c190 c191 c192 c193 c194 c195 c196 c197 c198 c199 c200 c201 c202 c203 c204 c205 c206 c207 c208 c209 c210 c211 c212 c213 c214 c215 c216 c217 c218 c219 c220 c221 c222 c223 c224 c225 c226 c227 c228 c229 c230 c231 c232 c233 c234 c235 c236 c237 c238 c239 c240 c241 c242 c243 c244 c245 c246 c247 c248 c249 c250 c251 c252 c253 c254 c255 c256 c257 c258 c259 c260 c261 c262 c263 c264 : Value)
    (hQ : ∀ (u198 u199 : Value)  (w' : World), w'.ownsRow w.heap.size 21 1 (.slice (some ⟨w.heap.size, 0, none⟩) 0 A) 0 [] → Kept (fun _ => False) w w' → Q .normal ⟨#[c0, c1, c2, c3, c4, .int .i64 A, c6, c7, c8, c9, c10, c11, c12, c13, c14, c15, c16, c17, c18, c19, c20, c21, .slice (some ⟨w.heap.size, 0, none⟩) 0 A, c23, c24, c25, c26, c27, c28, c29, c30, c31, c32, c33, c34, c35, c36, c37, c38, c39, c40, c41, c42, c43, c44, c45, c46, c47, c48, c49, c50, c51, c52, c53, c54, c55, c56, c57, c58, c59, c60, c61, c62, c63, c64, c65, c66, c67, c68, c69, c70, c71, c72, c73, c74, c75, c76, c77, c78, c79, c80, c81, c82, c83, c84, c85, c86, c87, c88, c89, c90, c91, c92, c93, c94, c95, c96, c97, c98, c99, c100, c101, c102, c103, c104, c105, c106, c107, c108, c109, c110, c111, c112, c113, c114, c115, c116, c117, c118, c119, c120, c121, c122, c123, c124, c125, c126, c127, c128, c129, c130, c131, c132, c133, c134, c135, c136, c137, c138, c139, c140, c141, c142, c143, c144, c145, c146, c147, c148, c149, c150, c151, c152, c153, c154, c155, c156, c157, c158, c159, c160, c161, c162, c163, c164, c165, c166, c167, c168, c169, c170, c171, c172, c173, c174, c175, c176, c177, c178, c179, c180, c181, c182, c183, c184, c185, c186, c187, c188, c189, c190, c191, c192, c193, c194, c195, c196, c197, u198, u199, c200, c201, c202, c203, c204, c205, c206, c207, c208, c209, c210, c211, c212, c213, c214, c215, c216, c217, c218, c219, c220, c221, c222, c223, c224, c225, c226, c227, c228, c229, c230, c231, c232, c233, c234, c235, c236, c237, c238, c239, c240, c241, c242, c243, c244, c245, c246, c247, c248, c249, c250, c251, c252, c253, c254, c255, c256, c257, c258, c259, c260, c261, c262, c263, c264], []⟩ w') :
    Code.wp Yba.prog (stm 14) Q ⟨#[c0, c1, c2, c3, c4, .int .i64 A, c6, c7, c8, c9, c10, c11, c12, c13, c14, c15, c16, c17, c18, c19, c20, c21, c22, c23, c24, c25, c26, c27, c28, c29, c30, c31, c32, c33, c34, c35, c36, c37, c38, c39, c40, c41, c42, c43, c44, c45, c46, c47, c48, c49, c50, c51, c52, c53, c54, c55, c56, c57, c58, c59, c60, c61, c62, c63, c64, c65, c66, c67, c68, c69, c70, c71, c72, c73, c74, c75, c76, c77, c78, c79, c80, c81, c82, c83, c84, c85, c86, c87, c88, c89, c90, c91, c92, c93, c94, c95, c96, c97, c98, c99, c100, c101, c102, c103, c104, c105, c106, c107, c108, c109, c110, c111, c112, c113, c114, c115, c116, c117, c118, c119, c120, c121, c122, c123, c124, c125, c126, c127, c128, c129, c130, c131, c132, c133, c134, c135, c136, c137, c138, c139, c140, c141, c142, c143, c144, c145, c146, c147, c148, c149, c150, c151, c152, c153, c154, c155, c156, c157, c158, c159, c160, c161, c162, c163, c164, c165, c166, c167, c168, c169, c170, c171, c172, c173, c174, c175, c176, c177, c178, c179, c180, c181, c182, c183, c184, c185, c186, c187, c188, c189, c190, c191, c192, c193, c194, c195, c196, c197, c198, c199, c200, c201, c202, c203, c204, c205, c206, c207, c208, c209, c210, c211, c212, c213, c214, c215, c216, c217, c218, c219, c220, c221, c222, c223, c224, c225, c226, c227, c228, c229, c230, c231, c232, c233, c234, c235, c236, c237, c238, c239, c240, c241, c242, c243, c244, c245, c246, c247, c248, c249, c250, c251, c252, c253, c254, c255, c256, c257, c258, c259, c260, c261, c262, c263, c264], []⟩ w := by
  have hAI : (A : Int) ≤ 65536 := by omega
  obtain ⟨i0, x0, x1, x2, x3⟩ := info_parts Yba.info21
  have HQQ : Aside _ := hQ
  clear hQ
  conv => arg 2; whnf
  go_wp2_with (at_make; refine wpList_make_own w rfl (.const (.int .i64 0)) (.tmp 198) 33 rfl w.heap.size 21 i0 _ 1 Yba.underlying33 x0 x1 x2 .i64 .i64 A A rfl rfl rfl ?b2 ?b3 ?b4 ?_)
  case b2 => omega
  case b3 => unfold maxLen; omega
  intro w3 ho3 hg3
  have kk : Kept (fun _ => False) w w3 := kept_grown hg3
  go_wp2_with fail
  have hQ := HQQ.out
  exact hQ _ _ w3 ho3 kk

set_option maxHeartbeats 4000000 in
set_option maxRecDepth 100000 in
/-- the children of the start -/
theorem stm15 (F SB EB N M ks ke : Nat) (st0 : Nat → Nat → Int) (ed : Nat → Nat × Nat) (sta : Nat → Nat) (wd : Nat → List Nat) (v0 : Value) (w0 w : World) (T : Trie N wd) (hsta : ∀ b, b < 256 → (sta b = 0 ∧ ∀ t, t < N → wd t ≠ [b]) ∨ (0 < sta b ∧ sta b < N ∧ wd (sta b) = [b])) (hwb : ∀ t b, t < N → wd t = [b] → b < 256) (h : LK F SB EB N M ks ke st0 ed sta wd (fun _ => False) [] v0 w0 w) (Q : Exit → Act → World → Prop) (c0 c1 c2 c3 c4 c5 c6 c7 c8 c10 c11 c12 c13 c14 c15 c16 c17 c18 c19 c20 c21 c23 c24 c25 c26 c27 c28 c29 c30 c31 c32 c33 c34 c35 c36 c37 c38 c39 c40 c41 c42 c43 c44 c45 c46 c47 c48 c49 c50 c51 c52 c53 c54 c55 c56 c57 c58 c59 c60 c61 c62 c63 c64 c65 c66 c67 c68 c69 c70 c71 c72 c73 c74 c75 c76 c77 c78 c79 c80 c81 c82 c83 c84 c85 c86 c87 c88 c89 c90 c91 c92 c93 c94 c95 c96 c97 c98 c99 c100 c101 c102 c103 c104 c105 c106 c107 c108 c109 c110 c111 c112 c113 c114 c115 c116 c117 c118 c119 c120 c121 c122 c123 c124 c125 c126 c127 c128 c129 c130 c131 c132 c133 c134 c135 c136 c137 c138 c139 c140 c141 c142 c143 c144 c145 c146 c147 c148 c149 c150 c151 c152 c153 c154 c155 c156 c157 c158 c159 c160 c161 c162 c163 c164 c165 c166 c167 c168 c169 c170 c171 c172 c173 c174 c175 c176 c177 c178 c179 c180 c181 c182 c183 c184 c185 c186 c187 c188 c189 c190 c191 c192 c193 c194 c195 c196 c197 c198 c199 c200 c201 c202 c203 c204 c205 c206 c207 c208 c209 c210 c211 c212 c213 c214 c215 c216 c217 c218 c219 c220 c221 c222 c223 c224 c225 c226 c227 c228 c229 c230 c231 c232 c233 c234 c235 c236 c237 c238 c239 c240 c241 c242 c243 c244 c245 c246 c247 c248 c249 c250 c251 c252 c253 c254 c255 c256 c257 c258 c259 c260 c261 c262 c263 c264 : Value)
    (hQ : ∀ (u24 u200 u201 u202 u203 u204 u205 u206 u207 u208 u209 u210 u211 u212 u213 : Value) (v' : Value) (q : List Nat) (w' : World), LK F SB EB N M ks ke st0 ed sta wd (fun s => s ∈ q) q v' w0 w' → Bfs N wd q 0 → Q .normal ⟨#[c0, c1, c2, c3, c4, c5, c6, c7, c8, .pointer (some ⟨F, 0, none⟩), c10, c11, c12, c13, c14, c15, c16, c17, c18, c19, c20, c21, v', c23, u24, c25, c26, c27, c28, c29, c30, c31, c32, c33, c34, c35, c36, c37, c38, c39, c40, c41, c42, c43, c44, c45, c46, c47, c48, c49, c50, c51, c52, c53, c54, c55, c56, c57, c58, c59, c60, c61, c62, c63, c64, c65, c66, c67, c68, c69, c70, c71, c72, c73, c74, c75, c76, c77, c78, c79, c80, c81, c82, c83, c84, c85, c86, c87, c88, c89, c90, c91, c92, c93, c94, c95, c96, c97, c98, c99, c100, c101, c102, c103, c104, c105, c106, c107, c108, c109, c110, c111, c112, c113, c114, c115, c116, c117, c118, c119, c120, c121, c122, c123, c124, c125, c126, c127, c128, c129, c130, c131, c132, c133, c134, c135, c136, c137, c138, c139, c140, c141, c142, c143, c144, c145, c146, c147, c148, c149, c150, c151, c152, c153, c154, c155, c156, c157, c158, c159, c160, c161, c162, c163, c164, c165, c166, c167, c168, c169, c170, c171, c172, c173, c174, c175, c176, c177, c178, c179, c180, c181, c182, c183, c184, c185, c186, c187, c188, c189, c190, c191, c192, c193, c194, c195, c196, c197, c198, c199, u200, u201, u202, u203, u204, u205, u206, u207, u208, u209, u210, u211, u212, u213, c214, c215, c216, c217, c218, c219, c220, c221, c222, c223, c224, c225, c226, c227, c228, c229, c230, c231, c232, c233, c234, c235, c236, c237, c238, c239, c240, c241, c242, c243, c244, c245, c246, c247, c248, c249, c250, c251, c252, c253, c254, c255, c256, c257, c258, c259, c260, c261, c262, c263, c264], []⟩ w') :
    Code.wp Yba.prog (stm 15) Q ⟨#[c0, c1, c2, c3, c4, c5, c6, c7, c8, .pointer (some ⟨F, 0, none⟩), c10, c11, c12, c13, c14, c15, c16, c17, c18, c19, c20, c21, v0, c23, c24, c25, c26, c27, c28, c29, c30, c31, c32, c33, c34, c35, c36, c37, c38, c39, c40, c41, c42, c43, c44, c45, c46, c47, c48, c49, c50, c51, c52, c53, c54, c55, c56, c57, c58, c59, c60, c61, c62, c63, c64, c65, c66, c67, c68, c69, c70, c71, c72, c73, c74, c75, c76, c77, c78, c79, c80, c81, c82, c83, c84, c85, c86, c87, c88, c89, c90, c91, c92, c93, c94, c95, c96, c97, c98, c99, c100, c101, c102, c103, c104, c105, c106, c107, c108, c109, c110, c111, c112, c113, c114, c115, c116, c117, c118, c119, c120, c121, c122, c123, c124, c125, c126, c127, c128, c129, c130, c131, c132, c133, c134, c135, c136, c137, c138, c139, c140, c141, c142, c143, c144, c145, c146, c147, c148, c149, c150, c151, c152, c153, c154, c155, c156, c157, c158, c159, c160, c161, c162, c163, c164, c165, c166, c167, c168, c169, c170, c171, c172, c173, c174, c175, c176, c177, c178, c179, c180, c181, c182, c183, c184, c185, c186, c187, c188, c189, c190, c191, c192, c193, c194, c195, c196, c197, c198, c199, c200, c201, c202, c203, c204, c205, c206, c207, c208, c209, c210, c211, c212, c213, c214, c215, c216, c217, c218, c219, c220, c221, c222, c223, c224, c225, c226, c227, c228, c229, c230, c231, c232, c233, c234, c235, c236, c237, c238, c239, c240, c241, c242, c243, c244, c245, c246, c247, c248, c249, c250, c251, c252, c253, c254, c255, c256, c257, c258, c259, c260, c261, c262, c263, c264], []⟩ w := by
  obtain ⟨i21, x0, x1, x2, x3⟩ := info_parts Yba.info21
  have HQQ : Aside _ := hQ
  have HST : Aside _ := hsta
  have HWB : Aside _ := hwb
  obtain ⟨⟨st, fm, _, _⟩, _, _⟩ := id h
  obtain ⟨cs, hrng, hAA, hlen⟩ : ∃ cs : List Value, w.rangeAt F 3 cs ∧ (∀ b, b < 256 → cs.toArray[b]? = some (.int .i32 (sta b))) ∧ cs.length = 256 := by
    refine ⟨(List.range 256).map fun b => Value.int .i32 (sta b), fun j u hu => ?_, fun b hb => ?_, by simp⟩
    · rw [List.getElem?_map] at hu
      obtain ⟨x, hx, rfl⟩ := Option.map_eq_some_iff.1 hu
      obtain ⟨hj, rfl⟩ := List.getElem?_eq_some_iff.1 hx
      rw [List.getElem_range]
      exact fm.cA j (by simpa using hj)
    · rw [List.getElem?_toArray, List.getElem?_map, List.getElem?_range hb]; rfl
  clear hQ hsta hwb fm
  conv => arg 2; whnf
  have h32 : (Yba.prog.info? 32).map (·.size) = some cs.length := by rw [hlen]; exact size32
  go_wp2_with (refine wpList_load_mid rfl 32 (.tmp 200) rfl F 3 rfl cs _ hrng Yba.underlying32 rfl h32 ?_)
  clear hrng h32
  have HAA : Aside _ := hAA
  clear hAA
  go_loopw [22, 24, 202] (fun v _ x wr => ∃ (i : Nat) (q : List Nat), i ≤ 256 ∧ x = .int .i64 i ∧ LK F SB EB N M ks ke st0 ed sta wd (fun s => s ∈ q) q v w0 wr ∧ ND q ∧ (∀ t, t ∈ q → ∃ b, b < i ∧ 0 < sta b ∧ sta b = t) ∧ (∀ b, b < i → sta b ≠ 0 → sta b ∈ q)) (fun _ _ x _ => 256 - (intOf x).toNat)
  case atStart =>
    obtain ⟨⟨st, f, h1, h2⟩, hr, hk⟩ := h
    exact ⟨0, [], by omega, rfl, ⟨⟨st, f, h1, fun s hs => by cases hs⟩, hr, hk⟩, fun p p' s hp => by simp at hp, (fun t ht => by simp at ht), fun b hb => by omega⟩
  case round =>
    clear h
    obtain ⟨i, q, hi, rfl, hL, hnd, hq1, hq2⟩ := hrel
    by_cases hlt : i < 256
    · have hI : (i : Int) < 256 := by omega
      have hI0 : (0 : Int) ≤ (i : Int) := by omega
      have ca := index32 (w := wr) hlt (HAA.out i hlt)
      by_cases h0 : sta i = 0
      · have hne : ((sta i : Int) != 0) = false := by simp; omega
        have fin1 : ∀ t, t ∈ q → ∃ b, b < i + 1 ∧ 0 < sta b ∧ sta b = t := fun t ht => by
          obtain ⟨b, b1, b2⟩ := hq1 t ht
          exact ⟨b, by omega, b2⟩
        have fin2 : ∀ b, b < i + 1 → sta b ≠ 0 → sta b ∈ q := fun b hb hn => by
          by_cases e : b = i
          · rw [e] at hn; exact absurd h0 hn
          · exact hq2 b (by omega) hn
        have F1 : Aside _ := fin1
        have F2 : Aside _ := fin2
        clear fin1 fin2 hq1 hq2 h0
        go_wp2_with fail
        go_roundw
        case rel => exact ⟨i + 1, q, by omega, by go_num, hL, hnd, F1.out, F2.out⟩
        case measure => simp [intOf]; omega
      · have hne : ((sta i : Int) != 0) = true := by simp; omega
        obtain ⟨t, ht⟩ : ∃ t, sta i = t := ⟨_, rfl⟩
        rw [ht] at ca hne h0
        obtain ⟨t0, tN, tw⟩ : 0 < t ∧ t < N ∧ wd t = [i] := by
          rcases HST.out i hlt with ⟨e, _⟩ | e
          · omega
          · rwa [ht] at e
        obtain ⟨⟨st, fm, h1, h2⟩, hr, hk⟩ := id hL
        have hN6 := fm.N6
        have C := link_call fm tN T.pos
        have tS := fm.tS
        have hql : q.length ≤ N := nodup_len N q hnd.nodup (fun s hs => by
          obtain ⟨b, b1, b2, b3⟩ := hq1 s hs
          rcases HST.out b (by omega) with ⟨e, _⟩ | e
          · omega
          · rw [← b3]; exact e.2.1)
        have fin1 : ∀ x, x ∈ q ++ [t] → ∃ b, b < i + 1 ∧ 0 < sta b ∧ sta b = x := fun x hx => by
          rcases List.mem_append.1 hx with hx | hx
          · obtain ⟨b, b1, b2⟩ := hq1 x hx
            exact ⟨b, by omega, b2⟩
          · rw [List.mem_singleton] at hx
            exact ⟨i, by omega, by omega, by omega⟩
        have fin2 : ∀ b, b < i + 1 → sta b ≠ 0 → sta b ∈ q ++ [t] := fun b hb hn => by
          rw [List.mem_append]
          by_cases e : b = i
          · right; rw [e, ht]; exact List.mem_singleton.2 rfl
          · exact .inl (hq2 b (by omega) hn)
        have fin3 : ND (q ++ [t]) := by
          have hnt : t ∉ q := fun hm => by
            obtain ⟨b, b1, b2, b3⟩ := hq1 t hm
            rcases HST.out b (by omega) with ⟨e, _⟩ | e
            · omega
            · have e3 := e.2.2
              rw [b3, tw] at e3
              simp at e3
              omega
          intro p p' s hp hp'
          have sp : ∀ (x : Nat), (q ++ [t])[x]? = some s → (x < q.length ∧ q[x]? = some s) ∨ (x = q.length ∧ s = t) := fun x hx => by
            by_cases c : x < q.length
            · rw [List.getElem?_append_left c] at hx; exact .inl ⟨c, hx⟩
            · rw [List.getElem?_append_right (by omega)] at hx
              right
              by_cases c2 : x - q.length = 0
              · rw [c2] at hx; simp at hx; exact ⟨by omega, hx.symm⟩
              · rw [List.getElem?_eq_none (by simp; omega)] at hx; cases hx
          rcases sp p hp with ⟨c, a⟩ | ⟨c, a⟩ <;> rcases sp p' hp' with ⟨c', a'⟩ | ⟨c', a'⟩
          · exact hnd p p' s a a'
          · subst a'; exact absurd (List.mem_of_getElem? a) hnt
          · subst a; exact absurd (List.mem_of_getElem? a') hnt
          · omega
        have F1 : Aside _ := fin1
        have F2 : Aside _ := fin2
        clear fin1 fin2 hq1 hq2 ht h0
        have H1 : Aside _ := h1
        have H2 : Aside _ := h2
        have hp : LP N wd (wd t) 0 := LP.start T tw
        clear h1 h2
        go_wp2_with (first | (go_at_call 21; refine C.mono ?_; rintro e w1 ⟨rfl, hl⟩; have L1 := hL.link t0 H1.out H2.out tS hl hp; have sz1 := L1.kept.size) | (at_builtin; refine wpList_append2 rfl (.tmp 209) (.tmp 211) 33 rfl w0.heap.size 21 i21 (.int .i32 0) 1 4 Yba.underlying33 x0 x1 x2 x3 rfl (by decide) _ q.length (iL q) rfl (L1.row.alloc _) ⟨w1.heap.size, 0, none⟩ 1 1 [.int .i32 t] rfl rfl ?c1 ?c2 ?c3 ?c4 ?c5 (by decide) ?_))
        case c1 => exact fun j x hj => new_cells1 w1 _ 21 j x hj
        case c2 =>
          intro x hx
          rw [List.mem_singleton] at hx
          subst hx; rfl
        case c3 => unfold maxLen; omega
        case c4 => omega
        case c5 => simp; omega
        intro g' cap' wa ho' hg' _
        have ka : Kept (fun j => u22.ownBlock = some j) w1 wa := ⟨hg'.os, hg'.tape, hg'.output, Nat.le_trans (by simp) hg'.size, fun j hj hS => (hg'.block j (by simp; omega) (fun e => hS e.symm)).trans (Below.heap_alloc _ _ j hj)⟩
        have L2 := L1.push ka ho'
        have L3 : LK F SB EB N M ks ke st0 ed sta wd (fun s => s ∈ q ++ [t]) (q ++ [t]) (.slice (some ⟨g', 0, none⟩) (q.length + 1) cap') w0 wa := by
          obtain ⟨⟨st, f, h1, h2⟩, hr, hk⟩ := L2
          exact ⟨⟨st, f, h1, fun s hs => h2 s (by simpa using hs)⟩, hr, hk⟩
        clear C hL hr hk fm tS L1 L2 ka ho' hg'
        go_wp2_with fail
        go_roundw
        case rel => exact ⟨i + 1, q ++ [t], by omega, by go_num, L3, fin3, F1.out, F2.out⟩
        case measure => simp [intOf]; omega
    · have e : i = 256 := by omega
      subst e
      have hb : Bfs N wd q 0 := by
        refine Bfs.init hnd (fun t ht => ?_) (fun t b tN tw => ?_)
        · obtain ⟨b, b1, b2, b3⟩ := hq1 t ht
          rcases HST.out b b1 with ⟨e, _⟩ | e
          · omega
          · rw [b3] at e; exact ⟨e.1, e.2.1, b, e.2.2⟩
        · have hb := HWB.out t b tN tw
          rcases HST.out b hb with ⟨_, e⟩ | e
          · exact absurd tw (e t tN)
          · have := T.inj t (sta b) tN e.2.1 (tw.trans e.2.2.symm)
            rw [this]
            exact hq2 b hb (by omega)
      clear hq1 hq2 hnd
      go_wp2_with fail
      have hQ := HQQ.out
      exact hQ _ _ _ _ _ _ _ _ _ _ _ _ _ _ _ _ q wr hL hb
end Go.Proofs.Ybulkckss
