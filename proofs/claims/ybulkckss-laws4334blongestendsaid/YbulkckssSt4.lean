import Derived.Test.YbulkckssSt3
import Derived.Test.YbulkckssStable
import Derived.Test.YbulkckssFe
namespace Go.Proofs.Ybulkckss
open Go.RowKit Go.Lib

/-- the cells of m edges -/
def edL (f : Nat → Ed) : Nat → List Value
  | 0 => []
  | m + 1 => edL f m ++ [.int .i32 (f m).fr, .int .u8 (f m).b, .int .i32 (f m).tt]
theorem edL_len (f : Nat → Ed) (m : Nat) : (edL f m).length = m * 3 := by
  induction m with
  | zero => rfl
  | succ m ih => unfold edL; rw [List.length_append, ih]; simp; omega
theorem edL_congr {f g : Nat → Ed} {m : Nat} (h : ∀ k, k < m → f k = g k) : edL f m = edL g m := by
  induction m with
  | zero => rfl
  | succ m ih => unfold edL; rw [ih (fun k hk => h k (by omega)), h m (by omega)]
theorem edL_get (f : Nat → Ed) (m : Nat) : ∀ k, k < m → (edL f m)[k * 3]? = some (.int .i32 (f k).fr) ∧ (edL f m)[k * 3 + 1]? = some (.int .u8 (f k).b) ∧ (edL f m)[k * 3 + 2]? = some (.int .i32 (f k).tt) := by
  induction m with
  | zero => intro k hk; omega
  | succ m ih =>
    intro k hk
    have hl := edL_len f m
    unfold edL
    by_cases e : k = m
    · subst e
      rw [List.getElem?_append_right (by omega), List.getElem?_append_right (by omega), List.getElem?_append_right (by omega), hl]
      rw [show k * 3 - k * 3 = 0 from by omega, show k * 3 + 1 - k * 3 = 1 from by omega, show k * 3 + 2 - k * 3 = 2 from by omega]
      exact ⟨rfl, rfl, rfl⟩
    · obtain ⟨h1, h2, h3⟩ := ih k (by omega)
      rw [List.getElem?_append_left (by omega), List.getElem?_append_left (by omega), List.getElem?_append_left (by omega)]
      exact ⟨h1, h2, h3⟩
theorem rowE_of {w : World} {base B m cap : Nat} {f : Nat → Ed} (h : w.ownsRow base 56 3 (.slice (some ⟨B, 0, none⟩) m cap) m (edL f m)) : RowE B m f w := by
  refine ⟨own_ty h B rfl, fun k hk => ?_⟩
  obtain ⟨h1, h2, h3⟩ := edL_get f m k hk
  have hl := edL_len f m
  exact ⟨(h.cellAt (k * 3) (by omega)).trans h1, (h.cellAt (k * 3 + 1) (by omega)).trans h2, (h.cellAt (k * 3 + 2) (by omega)).trans h3⟩

set_option maxHeartbeats 4000000 in
set_option maxRecDepth 100000 in
/-- the edges by their origin -/
theorem stm12 (B m cap : Nat) (e : Nat → Ed) (w : World) (hm : m ≤ 65536) (h : RowE B m e w) (Q : Exit → Act → World → Prop) (c0 c1 c2 c3 c4 c5 c6 c7 c8 c9 c11 c12 c13 c14 c15 c16 c17 c18 c19 c20 c21 c22 c23 c24 c25 c26 c27 c28 c29 c30 c31 c32 c33 c34 c35 c36 c37 c38 c39 c40 c41 c42 c43 c44 c45 c46 c47 c48 c49 c50 c51 c52 c53 c54 c55 c56 c57 c58 c59 c60 c61 c62 c63 c64 c65 c66 c67 c68 c69 c70 c71 c72 c73 c74 c75 c76 c77 c78 c79 c80 c81 c82 c83 c84 c85 c86 c87 c88 c89 c90 c91 c92 c93 c94 c95 c96 c97 c98 c99 c100 c101 c102 c103 c104 c105 c106 c107 c108 c109 c110 c111 c112 c113 c114 c115 c116 c117 c118 c119 c120 c121 c122 c123 c124 c125 c126 c127 c128 c129 c130 c131 c132 c133 c134 c135 c136 c137 c138 c139 c140 c141 c142 c143 c144 c145 c146 c147 c148 c149 c150 c151 c152 c153 c154 c155 c156 c157 c158 c159 c160 c161 c162 c163 c164 c165 c166 c167 c168 c169 c170 c171 c172 c173 c174 c175 c176 c177 c178 c179 c180 c181 c182 c183 c184 c185 c186 c187 c188 c189 c190 c191 c192 c193 c194 c195 c196 c197 c198 c199 c200 c201 c202 c203 c204 c205 c206 c207 c208 c209 c210 c211 c212 c213 c214 c215 c216 c217 c218 c219 c220 c221 c222 c223 c224 c225 c226 c227 c228 c229 c230 c231 c232 c233 c234 c235 c236 c237 c238 c239 c240 c241 c242 c243 c244 c245 c246 c247 c248 c249 c250 c251 c252 c253 c254 c255 c256 c257 c258 c259 c260 c261 c262 c263 c264 : Value)
    (hQ : ∀ (u147 u148 : Value) (g : Nat → Ed) (w' : World), RowE B m g w' → PermF 0 m e g → SortF Ed.fr 0 m g → Kept (fun k => k = B) w w' → Q .normal ⟨#[c0, c1, c2, c3, c4, c5, c6, c7, c8, c9, .slice (some ⟨B, 0, none⟩) m cap, c11, c12, c13, c14, c15, c16, c17, c18, c19, c20, c21, c22, c23, c24, c25, c26, c27, c28, c29, c30, c31, c32, c33, c34, c35, c36, c37, c38, c39, c40, c41, c42, c43, c44, c45, c46, c47, c48, c49, c50, c51, c52, c53, c54, c55, c56, c57, c58, c59, c60, c61, c62, c63, c64, c65, c66, c67, c68, c69, c70, c71, c72, c73, c74, c75, c76, c77, c78, c79, c80, c81, c82, c83, c84, c85, c86, c87, c88, c89, c90, c91, c92, c93, c94, c95, c96, c97, c98, c99, c100, c101, c102, c103, c104, c105, c106, c107, c108, c109, c110, c111, c112, c113, c114, c115, c116, c117, c118, c119, c120, c121, c122, c123, c124, c125, c126, c127, c128, c129, c130, c131, c132, c133, c134, c135, c136, c137, c138, c139, c140, c141, c142, c143, c144, c145, c146, u147, u148, c149, c150, c151, c152, c153, c154, c155, c156, c157, c158, c159, c160, c161, c162, c163, c164, c165, c166, c167, c168, c169, c170, c171, c172, c173, c174, c175, c176, c177, c178, c179, c180, c181, c182, c183, c184, c185, c186, c187, c188, c189, c190, c191, c192, c193, c194, c195, c196, c197, c198, c199, c200, c201, c202, c203, c204, c205, c206, c207, c208, c209, c210, c211, c212, c213, c214, c215, c216, c217, c218, c219, c220, c221, c222, c223, c224, c225, c226, c227, c228, c229, c230, c231, c232, c233, c234, c235, c236, c237, c238, c239, c240, c241, c242, c243, c244, c245, c246, c247, c248, c249, c250, c251, c252, c253, c254, c255, c256, c257, c258, c259, c260, c261, c262, c263, c264], []⟩ w') :
    Code.wp Yba.prog (stm 12) Q ⟨#[c0, c1, c2, c3, c4, c5, c6, c7, c8, c9, .slice (some ⟨B, 0, none⟩) m cap, c11, c12, c13, c14, c15, c16, c17, c18, c19, c20, c21, c22, c23, c24, c25, c26, c27, c28, c29, c30, c31, c32, c33, c34, c35, c36, c37, c38, c39, c40, c41, c42, c43, c44, c45, c46, c47, c48, c49, c50, c51, c52, c53, c54, c55, c56, c57, c58, c59, c60, c61, c62, c63, c64, c65, c66, c67, c68, c69, c70, c71, c72, c73, c74, c75, c76, c77, c78, c79, c80, c81, c82, c83, c84, c85, c86, c87, c88, c89, c90, c91, c92, c93, c94, c95, c96, c97, c98, c99, c100, c101, c102, c103, c104, c105, c106, c107, c108, c109, c110, c111, c112, c113, c114, c115, c116, c117, c118, c119, c120, c121, c122, c123, c124, c125, c126, c127, c128, c129, c130, c131, c132, c133, c134, c135, c136, c137, c138, c139, c140, c141, c142, c143, c144, c145, c146, c147, c148, c149, c150, c151, c152, c153, c154, c155, c156, c157, c158, c159, c160, c161, c162, c163, c164, c165, c166, c167, c168, c169, c170, c171, c172, c173, c174, c175, c176, c177, c178, c179, c180, c181, c182, c183, c184, c185, c186, c187, c188, c189, c190, c191, c192, c193, c194, c195, c196, c197, c198, c199, c200, c201, c202, c203, c204, c205, c206, c207, c208, c209, c210, c211, c212, c213, c214, c215, c216, c217, c218, c219, c220, c221, c222, c223, c224, c225, c226, c227, c228, c229, c230, c231, c232, c233, c234, c235, c236, c237, c238, c239, c240, c241, c242, c243, c244, c245, c246, c247, c248, c249, c250, c251, c252, c253, c254, c255, c256, c257, c258, c259, c260, c261, c262, c263, c264], []⟩ w := by
  have S := sortStable_call (w0 := w) cap hm ⟨Kept.refl _ _, h⟩
  have HQQ : Aside _ := hQ
  clear hQ
  conv => arg 2; whnf
  go_wp2_with fail
  refine S.mono ?_
  rintro e w1 ⟨rfl, g, hw, hp, hs⟩
  clear S
  go_wp2_with fail
  have hQ := HQQ.out
  exact hQ _ _ g w1 hw.row hp hs hw.kept
end Go.Proofs.Ybulkckss
