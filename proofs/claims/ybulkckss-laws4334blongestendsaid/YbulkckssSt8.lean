import Derived.Test.YbulkckssSt7
import Derived.Test.YbulkckssTx
import Derived.Deep.CutRange
namespace Go.Proofs.Ybulkckss
open Go.RowKit Go.Lib

theorem own_base {w : World} {base base' e size : Nat} {v : Value} {n : Nat} {xs : List Value} (h : w.ownsRow base e size v n xs) (hb : base' ≤ base) : w.ownsRow base' e size v n xs := by
  refine ⟨h.1, ?_⟩
  rcases h.2 with h0 | ⟨g, cap, cur, rfl, hg, rest⟩
  · exact .inl h0
  · exact .inr ⟨g, cap, cur, rfl, Nat.le_trans hb hg, rest⟩
theorem new_cells (w2 : World) (cs : Array Value) (t : TypeId) (j : Nat) (x : Value) (hj : cs.toList[j]? = some x) : (w2.alloc (.cells cs t)).cell? ((⟨w2.heap.size, 0, none⟩ : Addr).add j) = some x := by
  have e2 : (w2.alloc (.cells cs t)).heap[w2.heap.size]? = some (.cells cs t) := (MapKept.heap_alloc w2 _).1
  rw [add_plain', Nat.zero_add]
  simp only [World.cell?, e2]
  simpa using hj

/-- the cells of N states, tt their texts -/
def sL (tt : Nat → Int) : Nat → List Value
  | 0 => []
  | N + 1 => sL tt N ++ [.int .i32 0, .int .i32 0, .int .i32 0, .int .i32 (tt N), .int .i32 (-1)]
def sc (tt : Nat → Int) (s f : Nat) : Int := if f = 3 then tt s else if f = 4 then -1 else 0
theorem sL_len (tt : Nat → Int) (N : Nat) : (sL tt N).length = N * 5 := by
  induction N with
  | zero => rfl
  | succ m ih => unfold sL; rw [List.length_append, ih]; simp; omega
theorem sL_congr {tt tt' : Nat → Int} {N : Nat} (h : ∀ s, s < N → tt s = tt' s) : sL tt N = sL tt' N := by
  induction N with
  | zero => rfl
  | succ m ih => unfold sL; rw [ih (fun k hk => h k (by omega)), h m (by omega)]
theorem sL_get (tt : Nat → Int) (N : Nat) : ∀ s f, s < N → f < 5 → (sL tt N)[s * 5 + f]? = some (.int .i32 (sc tt s f)) := by
  induction N with
  | zero => intro s f hs; omega
  | succ m ih =>
    intro s f hs hf
    have hl := sL_len tt m
    unfold sL
    by_cases e : s = m
    · subst e
      rw [List.getElem?_append_right (by omega), hl, show s * 5 + f - s * 5 = f from by omega]
      rcases (show f = 0 ∨ f = 1 ∨ f = 2 ∨ f = 3 ∨ f = 4 by omega) with rfl | rfl | rfl | rfl | rfl <;> rfl
    · rw [List.getElem?_append_left (by omega)]
      exact ih s f (by omega) hf
theorem sL_set (tt : Nat → Int) (v : Int) (N s : Nat) (hs : s < N) : (sL tt N).set (s * 5 + 3) (.int .i32 v) = sL (fun x => if x = s then v else tt x) N := by
  induction N with
  | zero => omega
  | succ m ih =>
    have hl := sL_len tt m
    unfold sL
    by_cases e : s = m
    · subst e
      rw [List.set_append_right _ _ (by omega), hl, show s * 5 + 3 - s * 5 = 3 from by omega, sL_congr (tt' := fun x => if x = s then v else tt x) (fun x hx => (if_neg (by omega)).symm)]
      simp
    · rw [List.set_append_left _ _ (by omega), ih (by omega), if_neg (fun x => e x.symm)]

/-- the finder as the tree is built: N states, m edges in their own row, the path -/
structure BI (Z : Array Value) (w0 : World) (ad : Option Addr) (n cap A F EB N : Nat) (vS : Value) (tt : Nat → Int) (m : Nat) (vE : Value) (e : Nat → Ed) (path : List Nat) (vP : Value) (w : World) : Prop where
  gf : GF Z w0 ad n cap A F EB N vS (sL tt N) w
  oE : w.ownsRow w0.heap.size 56 3 vE m (edL e m)
  oP : w.ownsRow w0.heap.size 21 1 vP path.length (iL path)
  nE : ∃ B c, vE = .slice (some ⟨B, 0, none⟩) m c
section
variable {Z : Array Value} {w0 : World} {ad : Option Addr} {n cap A F EB N : Nat} {vS : Value} {tt : Nat → Int} {m : Nat} {vE : Value} {e : Nat → Ed} {path : List Nat} {vP : Value} {w w' : World} {xs : List Value}

theorem GF.kept2 {S : Nat → Prop} (h : GF Z w0 ad n cap A F EB N vS xs w) (k : Kept S w w') (h1 : ¬ S F) (h2 : ∀ g, vS.ownBlock = some g → ¬ S g) (h3 : ¬ S EB) (h4 : ∀ j, S j → w0.heap.size ≤ j) : GF Z w0 ad n cap A F EB N vS xs w' := by
  have e1 := k.block F (tyOf_lt h.tF) h1
  exact ⟨⟨k.os.trans h.kept.os, k.tape.trans h.kept.tape, k.output.trans h.kept.output, Nat.le_trans h.kept.size k.size, fun j hj hS => (k.block j (Nat.lt_of_lt_of_le hj h.kept.size) (fun x => by have := h4 j x; omega)).trans (h.kept.block j hj hS)⟩,
    (tyOf_congr e1).trans h.tF, (World.cell?_of_block e1).trans h.c0, (World.cell?_of_block e1).trans h.c1, (World.cell?_of_block e1).trans h.c2, fun o h3 ho => (World.cell?_of_block e1).trans (h.cz o h3 ho), k.owns h.oS h2, k.owns h.oE (fun g hg => by simp only [Value.ownBlock, Option.some.injEq] at hg; rw [← hg]; exact h3), h.le⟩
theorem GF.tE (h : GF Z w0 ad n cap A F EB N vS xs w) : tyOf w EB = some 54 := own_ty h.oE EB rfl
theorem BI.new (h : BI Z w0 ad n cap A F EB N vS tt m vE e path vP w) (b : Below w.heap.size w w') : BI Z w0 ad n cap A F EB N vS tt m vE e path vP w' :=
  ⟨h.gf.kept2 (Kept.of_below b) (fun x => x) (fun _ _ x => x) (fun x => x) (fun _ x => x.elim), (Kept.of_below b).owns h.oE (fun _ _ x => x), (Kept.of_below b).owns h.oP (fun _ _ x => x), h.nE⟩
/-- a state more -/
theorem BI.pushS (h : BI Z w0 ad n cap A F EB N vS tt m vE e path vP w) {v : Value} (k : Kept (fun j => vS.ownBlock = some j) w w') (ho : w'.ownsRow w0.heap.size 47 5 v (N + 1) (sL tt N ++ [.int .i32 0, .int .i32 0, .int .i32 0, .int .i32 (-1), .int .i32 (-1)])) :
    BI Z w0 ad n cap A F EB (N + 1) v (fun x => if x = N then -1 else tt x) m vE e path vP (w'.setCell ⟨F, 1, none⟩ v) := by
  have tS := own_ty h.gf.oS
  have hne : ∀ g T, tyOf w g = some T → T ≠ 47 → ¬ vS.ownBlock = some g := fun g T hT hn x => hn (Option.some.inj (hT.symm.trans (tS g x)))
  have nF := hne F _ h.gf.tF (by decide)
  have e1 := k.block F (tyOf_lt h.gf.tF) nF
  have tF' := (tyOf_congr e1).trans h.gf.tF
  have hl : sL tt N ++ [.int .i32 0, .int .i32 0, .int .i32 0, .int .i32 (-1), .int .i32 (-1)] = sL (fun x => if x = N then -1 else tt x) (N + 1) := by
    show _ = sL (fun x => if x = N then -1 else tt x) N ++ [.int .i32 0, .int .i32 0, .int .i32 0, .int .i32 (if N = N then -1 else tt N), .int .i32 (-1)]
    rw [if_pos rfl, sL_congr (tt' := fun x => if x = N then -1 else tt x) (fun x hx => (if_neg (by omega)).symm)]
  rw [hl] at ho
  have hc : ∀ o v', o ≠ 1 → w.cell? ⟨F, o, none⟩ = v' → (w'.setCell ⟨F, 1, none⟩ v).cell? ⟨F, o, none⟩ = v' := fun o v' hn hv => (World.cell?_setCell_other _ _ _ _ (fun x => by simp only [Addr.mk.injEq, true_and, and_true] at x; omega)).trans ((World.cell?_of_block e1).trans hv)
  have oE' := k.owns h.oE (fun g hg => hne g _ (own_ty h.oE g hg) (by decide))
  have oP' := k.owns h.oP (fun g hg => hne g _ (own_ty h.oP g hg) (by decide))
  have oB' := k.owns h.gf.oE (fun g hg => hne g _ (own_ty h.gf.oE g hg) (by decide))
  refine ⟨⟨⟨k.os.trans h.gf.kept.os, k.tape.trans h.gf.kept.tape, k.output.trans h.gf.kept.output, ?_, fun j hj hS => ?_⟩, (set_ty tF').trans tF', hc 0 _ (by omega) h.gf.c0, World.cell?_setCell_same _ _ _ ((World.cell?_of_block e1).trans h.gf.c1), hc 2 _ (by omega) h.gf.c2, fun o h3 ho => hc o _ (by omega) (h.gf.cz o h3 ho), set_owns ho tF' (by decide), set_owns oB' tF' (by decide), h.gf.le⟩, set_owns oE' tF' (by decide), set_owns oP' tF' (by decide), h.nE⟩
  · have := Nat.le_trans h.gf.kept.size k.size
    simpa using this
  · refine (set_other (by have := h.gf.le; omega)).trans ((k.block j (Nat.lt_of_lt_of_le hj h.gf.kept.size) (fun x => ?_)).trans (h.gf.kept.block j hj hS))
    have := own_le h.gf.oS j x
    omega
/-- an edge more -/
theorem BI.pushE (h : BI Z w0 ad n cap A F EB N vS tt m vE e path vP w) {v : Value} {x : Ed} (k : Kept (fun j => vE.ownBlock = some j) w w') (ho : w'.ownsRow w0.heap.size 56 3 v (m + 1) (edL e m ++ [.int .i32 x.fr, .int .u8 x.b, .int .i32 x.tt])) (hv : ∃ B c, v = .slice (some ⟨B, 0, none⟩) (m + 1) c) :
    BI Z w0 ad n cap A F EB N vS tt (m + 1) v (fun j => if j = m then x else e j) path vP w' := by
  have hne : ∀ g T, tyOf w g = some T → T ≠ 56 → ¬ vE.ownBlock = some g := fun g T hT hn x => hn (Option.some.inj (hT.symm.trans (own_ty h.oE g x)))
  have hl : edL e m ++ [.int .i32 x.fr, .int .u8 x.b, .int .i32 x.tt] = edL (fun j => if j = m then x else e j) (m + 1) := by
    rw [show edL (fun j => if j = m then x else e j) (m + 1) = edL (fun j => if j = m then x else e j) m ++ [.int .i32 (if m = m then x else e m).fr, .int .u8 (if m = m then x else e m).b, .int .i32 (if m = m then x else e m).tt] from rfl, if_pos rfl, edL_congr (g := fun j => if j = m then x else e j) (fun x hx => (if_neg (by omega)).symm)]
  rw [hl] at ho
  exact ⟨h.gf.kept2 k (hne F _ h.gf.tF (by decide)) (fun g hg => hne g _ (own_ty h.gf.oS g hg) (by decide)) (hne EB _ h.gf.tE (by decide)) (fun j hj => own_le h.oE j hj), ho, k.owns h.oP (fun g hg => hne g _ (own_ty h.oP g hg) (by decide)), hv⟩
/-- the path grows -/
theorem BI.pushP (h : BI Z w0 ad n cap A F EB N vS tt m vE e path vP w) {v : Value} {t : Nat} (k : Kept (fun j => vP.ownBlock = some j) w w') (ho : w'.ownsRow w0.heap.size 21 1 v (path.length + 1) (iL path ++ [.int .i32 t])) :
    BI Z w0 ad n cap A F EB N vS tt m vE e (path ++ [t]) v w' := by
  have hne : ∀ g T, tyOf w g = some T → T ≠ 21 → ¬ vP.ownBlock = some g := fun g T hT hn x => hn (Option.some.inj (hT.symm.trans (own_ty h.oP g x)))
  rw [iL_snoc] at ho
  refine ⟨h.gf.kept2 k (hne F _ h.gf.tF (by decide)) (fun g hg => hne g _ (own_ty h.gf.oS g hg) (by decide)) (hne EB _ h.gf.tE (by decide)) (fun j hj => own_le h.oP j hj), k.owns h.oE (fun g hg => hne g _ (own_ty h.oE g hg) (by decide)), ?_, h.nE⟩
  rw [List.length_append]; exact ho
/-- the path is cut -/
theorem BI.cut {c cp : Nat} {pa : Option Addr} (h : BI Z w0 ad n cap A F EB N vS tt m vE e path (.slice pa path.length cp) w) (hc : c ≤ path.length) : BI Z w0 ad n cap A F EB N vS tt m vE e (path.take c) (.slice pa c cp) w := by
  refine ⟨h.gf, h.oE, ?_, h.nE⟩
  have hl : (path.take c).length = c := by rw [List.length_take]; omega
  rw [hl, show iL (path.take c) = (iL path).take c from by simp [iL]]
  rcases h.oP.2 with ⟨h0, h1⟩ | ⟨g, cap', cur, h0, _⟩
  · simp only [Value.slice.injEq] at h0
    obtain ⟨rfl, _, rfl⟩ := h0
    obtain rfl : c = 0 := by omega
    exact World.ownsRow_nil _ _ _ _
  · simp only [Value.slice.injEq] at h0
    obtain ⟨rfl, _, rfl⟩ := h0
    exact row_cut h.oP hc
/-- a text's number is laid -/
theorem BI.setT {SB ks s id : Nat} (h : BI Z w0 ad n cap A F EB N (.slice (some ⟨SB, 0, none⟩) N ks) tt m vE e path vP w) (hs : s < N) :
    BI Z w0 ad n cap A F EB N (.slice (some ⟨SB, 0, none⟩) N ks) (fun x => if x = s then (id : Int) else tt x) m vE e path vP (w.setCell ⟨SB, s * 5 + 3, none⟩ (.int .i32 id)) := by
  have tS := own_ty h.gf.oS SB rfl
  have nF := tyOf_ne h.gf.tF tS (by decide)
  have hst := (h.gf.oS.stored (s * 5 + 3) (.int .i32 id)).1
  rw [sL_set _ _ _ _ hs] at hst
  refine ⟨⟨⟨h.gf.kept.os, h.gf.kept.tape, h.gf.kept.output, by simpa using h.gf.kept.size, fun j hj hS => (set_other (by have := own_le h.gf.oS SB rfl; omega)).trans (h.gf.kept.block j hj hS)⟩, (set_ty tS).trans h.gf.tF, (set_cell_ne nF).trans h.gf.c0, (set_cell_ne nF).trans h.gf.c1, (set_cell_ne nF).trans h.gf.c2, fun o h3 ho => (set_cell_ne nF).trans (h.gf.cz o h3 ho), hst, set_owns h.gf.oE tS (by decide), h.gf.le⟩, set_owns h.oE tS (by decide), set_owns h.oP tS (by decide), h.nE⟩
theorem BI.slS (h : BI Z w0 ad n cap A F EB N vS tt m vE e path vP w) (hN : 0 < N) : ∃ SB ks, vS = .slice (some ⟨SB, 0, none⟩) N ks := by
  rcases h.gf.oS.2 with ⟨_, h0⟩ | ⟨g, c, cur, rfl, _⟩
  · omega
  · exact ⟨g, c, rfl⟩
end
/-- behind an append into a row v -/
theorem kept_app {w w' : World} {o : Obj} {v : Value} (h : (w.alloc o).grownBy w' v.ownBlock) : Kept (fun j => v.ownBlock = some j) w w' :=
  ⟨h.os, h.tape, h.output, Nat.le_trans (by simp) h.size, fun j hj hS => (h.block j (by simp; omega) (fun e => hS e.symm)).trans (Below.heap_alloc _ _ j hj)⟩

set_option maxHeartbeats 4000000 in
set_option maxRecDepth 100000 in
/-- the tree is built -/
theorem stm11 (Z : Array Value) (TB XB OB n cap A F EB : Nat) (ad : Option Addr) (tx : Nat → ByteArray) (od : Nat → Nat) (vS0 vE0 : Value) (e0 : Nat → Ed) (w0 w : World) (hx : TXv ad XB n tx w0) (hb : Box TB ad n cap w0) (hO : Row32 OB n od w0) (hod : ∀ j, j < n → od j < n) (hsort : ∀ a b, a < b → b < n → compareBytes (bl (tx (od a))) (bl (tx (od b))) ≤ 0) (h : BI Z w0 ad n cap A F EB 1 vS0 (fun _ => -1) 0 vE0 e0 [] (.slice none 0 0) w) (Q : Exit → Act → World → Prop) (c0 c2 c4 c5 c7 c8 c12 c13 c14 c15 c16 c17 c18 c19 c20 c21 c22 c23 c24 c25 c26 c27 c28 c29 c30 c31 c32 c33 c34 c35 c36 c37 c38 c39 c40 c41 c42 c43 c44 c45 c46 c47 c48 c49 c50 c51 c52 c53 c54 c55 c56 c57 c58 c59 c60 c61 c62 c63 c64 c65 c66 c67 c68 c69 c70 c71 c72 c73 c74 c75 c76 c77 c78 c79 c80 c81 c82 c83 c84 c85 c86 c87 c88 c89 c90 c91 c92 c93 c94 c95 c96 c97 c98 c99 c100 c101 c102 c103 c104 c105 c106 c107 c108 c109 c110 c111 c112 c113 c114 c115 c116 c117 c118 c119 c120 c121 c122 c123 c124 c125 c126 c127 c128 c129 c130 c131 c132 c133 c134 c135 c136 c137 c138 c139 c140 c141 c142 c143 c144 c145 c146 c147 c148 c149 c150 c151 c152 c153 c154 c155 c156 c157 c158 c159 c160 c161 c162 c163 c164 c165 c166 c167 c168 c169 c170 c171 c172 c173 c174 c175 c176 c177 c178 c179 c180 c181 c182 c183 c184 c185 c186 c187 c188 c189 c190 c191 c192 c193 c194 c195 c196 c197 c198 c199 c200 c201 c202 c203 c204 c205 c206 c207 c208 c209 c210 c211 c212 c213 c214 c215 c216 c217 c218 c219 c220 c221 c222 c223 c224 c225 c226 c227 c228 c229 c230 c231 c232 c233 c234 c235 c236 c237 c238 c239 c240 c241 c242 c243 c244 c245 c246 c247 c248 c249 c250 c251 c252 c253 c254 c255 c256 c257 c258 c259 c260 c261 c262 c263 c264 : Value)
    (hQ : ∀ (u6 u11 u13 u14 u15 u16 u17 u18 u84 u85 u86 u87 u88 u89 u90 u91 u92 u93 u94 u95 u96 u97 u98 u99 u100 u101 u102 u103 u104 u105 u106 u107 u108 u109 u110 u111 u112 u113 u114 u115 u116 u117 u118 u119 u120 u121 u122 u123 u124 u125 u126 u127 u128 u129 u130 u131 u132 u133 u134 u135 u136 u137 u138 u139 u140 u141 u142 u143 u144 u145 u146 : Value) (vE : Value) (m : Nat) (vS vP : Value) (tt : Nat → Int) (e : Nat → Ed) (wd : Nat → List Nat) (path : List Nat) (w' : World), BI Z w0 ad n cap A F EB (m + 1) vS tt m vE e path vP w' → Bld (PP tx od n) (m + 1) wd e → m ≤ 65536 → Q .normal ⟨#[c0, .pointer (some ⟨TB, 0, none⟩), c2, .slice (some ⟨OB, 0, none⟩) n n, c4, c5, u6, c7, c8, .pointer (some ⟨F, 0, none⟩), vE, u11, c12, u13, u14, u15, u16, u17, u18, c19, c20, c21, c22, c23, c24, c25, c26, c27, c28, c29, c30, c31, c32, c33, c34, c35, c36, c37, c38, c39, c40, c41, c42, c43, c44, c45, c46, c47, c48, c49, c50, c51, c52, c53, c54, c55, c56, c57, c58, c59, c60, c61, c62, c63, c64, c65, c66, c67, c68, c69, c70, c71, c72, c73, c74, c75, c76, c77, c78, c79, c80, c81, c82, c83, u84, u85, u86, u87, u88, u89, u90, u91, u92, u93, u94, u95, u96, u97, u98, u99, u100, u101, u102, u103, u104, u105, u106, u107, u108, u109, u110, u111, u112, u113, u114, u115, u116, u117, u118, u119, u120, u121, u122, u123, u124, u125, u126, u127, u128, u129, u130, u131, u132, u133, u134, u135, u136, u137, u138, u139, u140, u141, u142, u143, u144, u145, u146, c147, c148, c149, c150, c151, c152, c153, c154, c155, c156, c157, c158, c159, c160, c161, c162, c163, c164, c165, c166, c167, c168, c169, c170, c171, c172, c173, c174, c175, c176, c177, c178, c179, c180, c181, c182, c183, c184, c185, c186, c187, c188, c189, c190, c191, c192, c193, c194, c195, c196, c197, c198, c199, c200, c201, c202, c203, c204, c205, c206, c207, c208, c209, c210, c211, c212, c213, c214, c215, c216, c217, c218, c219, c220, c221, c222, c223, c224, c225, c226, c227, c228, c229, c230, c231, c232, c233, c234, c235, c236, c237, c238, c239, c240, c241, c242, c243, c244, c245, c246, c247, c248, c249, c250, c251, c252, c253, c254, c255, c256, c257, c258, c259, c260, c261, c262, c263, c264], []⟩ w') :
    Code.wp Yba.prog (stm 11) Q ⟨#[c0, .pointer (some ⟨TB, 0, none⟩), c2, .slice (some ⟨OB, 0, none⟩) n n, c4, c5, .string ⟨#[]⟩, c7, c8, .pointer (some ⟨F, 0, none⟩), vE0, .slice none 0 0, c12, c13, c14, c15, c16, c17, c18, c19, c20, c21, c22, c23, c24, c25, c26, c27, c28, c29, c30, c31, c32, c33, c34, c35, c36, c37, c38, c39, c40, c41, c42, c43, c44, c45, c46, c47, c48, c49, c50, c51, c52, c53, c54, c55, c56, c57, c58, c59, c60, c61, c62, c63, c64, c65, c66, c67, c68, c69, c70, c71, c72, c73, c74, c75, c76, c77, c78, c79, c80, c81, c82, c83, c84, c85, c86, c87, c88, c89, c90, c91, c92, c93, c94, c95, c96, c97, c98, c99, c100, c101, c102, c103, c104, c105, c106, c107, c108, c109, c110, c111, c112, c113, c114, c115, c116, c117, c118, c119, c120, c121, c122, c123, c124, c125, c126, c127, c128, c129, c130, c131, c132, c133, c134, c135, c136, c137, c138, c139, c140, c141, c142, c143, c144, c145, c146, c147, c148, c149, c150, c151, c152, c153, c154, c155, c156, c157, c158, c159, c160, c161, c162, c163, c164, c165, c166, c167, c168, c169, c170, c171, c172, c173, c174, c175, c176, c177, c178, c179, c180, c181, c182, c183, c184, c185, c186, c187, c188, c189, c190, c191, c192, c193, c194, c195, c196, c197, c198, c199, c200, c201, c202, c203, c204, c205, c206, c207, c208, c209, c210, c211, c212, c213, c214, c215, c216, c217, c218, c219, c220, c221, c222, c223, c224, c225, c226, c227, c228, c229, c230, c231, c232, c233, c234, c235, c236, c237, c238, c239, c240, c241, c242, c243, c244, c245, c246, c247, c248, c249, c250, c251, c252, c253, c254, c255, c256, c257, c258, c259, c260, c261, c262, c263, c264], []⟩ w := by
  have hn6 := hx.n6
  have hnI : (n : Int) ≤ 256 := by omega
  obtain ⟨i47, p0, p1, p2, p3⟩ := info_parts Yba.info47
  obtain ⟨i56, q0, q1, q2, q3⟩ := info_parts Yba.info56
  obtain ⟨i21, x0, x1, x2, x3⟩ := info_parts Yba.info21
  have HOD : Aside _ := hod
  have HSO : Aside _ := hsort
  have HQQ : Aside _ := hQ
  clear hod hsort hQ
  conv => arg 2; whnf
  go_wp2_with fail
  go_loopw [6, 10, 11, 13, 14, 15, 16, 17, 18, 86] (fun pv ve vp _ _ _ _ _ _ x wr => ∃ (i m : Nat) (vS : Value) (tt : Nat → Int) (e : Nat → Ed) (wd : Nat → List Nat) (path : List Nat) (p : ByteArray), i ≤ n ∧ x = .int .i64 i ∧ pv = .string p ∧ BI Z w0 ad n cap A F EB (m + 1) vS tt m ve e path vp wr ∧ OD tx od i (m + 1) wd e path p) (fun _ _ _ _ _ _ _ _ _ x _ => 256 - (intOf x).toNat)
  case atStart => exact ⟨0, 0, vS0, fun _ => -1, e0, fun _ => [], [], ⟨#[]⟩, by omega, rfl, rfl, h, OD.init tx od e0⟩
  case round =>
    clear h
    obtain ⟨i, m, vS, tt, e, wd, path, p, hi, rfl, rfl, hB, hD⟩ := hrel
    by_cases hlt : i < n
    · have hk := hB.gf.kept
      have hr := hO.kept hk (fun x => x)
      have hbx := hb.kept hk (fun x => x)
      have htx := hx.kept hk (fun _ x => x)
      have adE := (htx.ad (by omega)).1
      have hod := HOD.out i hlt
      have hI : (i : Int) < (n : Int) := by omega
      have h0 : (0 : Int) ≤ (i : Int) := by omega
      have co := hr.2 i hlt
      have cb := hbx.2
      rw [adE] at cb
      have ct := htx.txt (od i) hod
      obtain ⟨z1, z2⟩ := htx.sz (od i) hod
      have o1 : (od i : Int) < (n : Int) := by omega
      have o0 : (0 : Int) ≤ (od i : Int) := by omega
      have hFR := fun (c : Nat) (hl : IsLcp (bl p) (bl (tx (od i))) c) => hD.fresh HSO.out hlt hl
      obtain ⟨T, hT⟩ : ∃ T, tx (od i) = T := ⟨_, rfl⟩
      rw [hT] at ct z1 z2 hFR
      have HT : Hid (tx (od i) = T) := hT
      have z2I : (T.size : Int) ≤ 256 := by omega
      have L := lcp_call p T wr hD.pz z2
      obtain ⟨pa, cp, hv⟩ := qslice hB.oP
      subst hv
      have HFR : Aside _ := hFR
      have HADE : Hid (ad = some ⟨XB, 0, none⟩) := adE
      have HPL : Hid (path.length = p.size) := hD.pl
      have HDD : Aside _ := hD
      clear hT hFR adE hr hbx htx hk hD
      go_wp2_with fail
      refine L.mono ?_
      rintro e1 w1 ⟨c, rfl, hl, hbel⟩
      have B1 := hB.new hbel
      have hc1 : c ≤ p.size := by have := hl.la; simpa using this
      have hc2 : c ≤ T.size := by have := hl.lb; simpa using this
      have hcI : (c : Int) ≤ (cp : Int) := by
        have h1 := HPL.out
        have h2 : path.length ≤ cp := by
          rcases hB.oP.2 with ⟨h0, h3⟩ | ⟨g, cap', cur, h0, _, _, h3, _⟩
          · simp only [Value.slice.injEq] at h0
            omega
          · simp only [Value.slice.injEq] at h0
            omega
        omega
      have hcI0 : (0 : Int) ≤ (c : Int) := by omega
      clear L hbel co cb ct
      go_upto_if 101 with fail
      obtain ⟨s, hs⟩ : ∃ s, (c = 0 ∧ s = 0) ∨ ∃ c', c = c' + 1 ∧ path[c']? = some s := by
        by_cases c0 : c = 0
        · exact ⟨0, .inl ⟨c0, rfl⟩⟩
        · exact ⟨path[c - 1]'(by have := HPL.out; omega), .inr ⟨c - 1, by omega, List.getElem?_eq_getElem _⟩⟩
      have HS : Hid ((c = 0 ∧ s = 0) ∨ ∃ c', c = c' + 1 ∧ path[c']? = some s) := hs
      clear hs
      go_cut [16] from 102 to 106 (fun v wc => v = .int .i32 s ∧ wc = w1)
      case first =>
        rcases HS.out with ⟨hc0, hs0⟩ | ⟨c', hcc, hps⟩
        · have hcn : (c : Int) ≤ 0 := by omega
          have HS0 : Hid (s = 0) := hs0
          clear hc0 hs0
          go_wp2_with fail
          go_meet
          exact ⟨by rw [HS0.out]; rfl, rfl⟩
        · have hcn : (0 : Int) < (c : Int) := by omega
          obtain ⟨gp, cpp, hv, _, _, _, _, hcell⟩ := row_at B1.oP (by have := HPL.out; omega)
          simp only [Value.slice.injEq] at hv
          obtain ⟨rfl, -, hcp⟩ := hv
          subst hcp
          have hcl : c' < path.length := (List.getElem?_eq_some_iff.1 hps).1
          have cc : w1.cell? ⟨gp, c', none⟩ = some (.int .i32 s) := (hcell c' hcl).trans (iL_get hps)
          have wk : IntKind.i64.wrap ((c : Int) - 1) = (c' : Int) := by rw [IntKind.wrap_i64]; omega
          have wk2 : (c : Int) - 1 = (c' : Int) := by omega
          have wk3 : (c' : Int) < (c : Int) := by omega
          have wk4 : (0 : Int) ≤ (c' : Int) := by omega
          clear hcc hps hcell
          go_wp2_with fail
          go_meet
          exact ⟨rfl, rfl⟩
      case rest =>
        obtain ⟨rfl, rfl⟩ := hcut
        have hcp2 : c ≤ path.length := by have := HPL.out; omega
        have B2 := B1.cut hcp2
        have D2 := HDD.out.enter hl HS.out
        have hnb := HDD.out.nb
        have hfr : ∀ k, c ≤ k → k < (bl T).length → ¬ PP tx od i ((bl T).take (k + 1)) := fun k h1 h2 => HFR.out c hl k h1 h2
        have HF2 : Aside _ := hfr
        clear hfr HFR HS HDD hl B1 hB HPL
        go_wp2_with fail
        go_loopw [10, 11, 16, 17, 18] (fun ve vp vs x _ wr => ∃ (k m : Nat) (vS : Value) (tt : Nat → Int) (e : Nat → Ed) (wd : Nat → List Nat) (path : List Nat) (s : Nat), c ≤ k ∧ k ≤ T.size ∧ x = .int .i64 k ∧ vs = .int .i32 s ∧ BI Z w0 ad n cap A F EB (m + 1) vS tt m ve e path vp wr ∧ BD (PP tx od i) (bl T) k (m + 1) wd e path s ∧ m + 1 ≤ 1 + 256 * i + k) (fun _ _ _ x _ _ => 257 - (intOf x).toNat)
        case atStart => exact ⟨c, m, vS, tt, e, wd, _, s, Nat.le_refl _, hc2, rfl, rfl, B2, D2, by omega⟩
        case round =>
          clear B2 D2 hnb
          obtain ⟨k, m, vS, tt, e, wd, path, s, hck, hkT, rfl, rfl, hB, hD, hnb⟩ := hrel
          obtain ⟨SB, ks, rfl⟩ := hB.slS (by omega)
          have hF1 := hB.gf.c1
          have hk0 : (0 : Int) ≤ (k : Int) := by omega
          have hsN := hD.sN
          by_cases hlk : k < T.size
          · have hkI : (k : Int) < (T.size : Int) := by omega
            have gb : (bl T)[k]? = some T[k] := by
              rw [List.getElem?_eq_getElem (by simpa using hlk)]; rfl
            have D2 := hD.step gb (HF2.out k hck (by simpa using hlk))
            have hpl := hD.pl
            obtain ⟨N, hN⟩ : ∃ N, m + 1 = N := ⟨_, rfl⟩
            rw [hN] at hB hF1
            have hN6 : N ≤ 65537 := by omega
            have hNI : (N : Int) ≤ 65537 := by omega
            have HN : Hid (m + 1 = N) := hN
            have HD2 : Aside _ := D2
            have hm6 : m ≤ 65536 := by omega
            have hp6 : path.length ≤ 256 := by omega
            have szw := hB.gf.kept.size
            clear hN D2 hD gb hpl hsN
            go_wp2_with (at_builtin; refine wpList_append2 rfl (.tmp 119) (.tmp 121) 30 rfl w0.heap.size 47 i47 (.agg #[.int .i32 0, .int .i32 0, .int .i32 0, .int .i32 0, .int .i32 0]) 5 20 Yba.underlying30 p0 p1 p2 p3 rfl (by decide) _ N (sL tt N) rfl (hB.gf.oS.alloc _) ⟨wr.heap.size, 0, none⟩ 1 1 [.int .i32 0, .int .i32 0, .int .i32 0, .int .i32 (-1), .int .i32 (-1)] rfl rfl ?c1 ?c2 ?c3 ?c4 ?c5 (by decide) ?_)
            case c1 => exact fun j x hj => new_cells wr #[.int .i32 0, .int .i32 0, .int .i32 0, .int .i32 (-1), .int .i32 (-1)] 47 j x hj
            case c2 =>
              intro x hx
              simp only [List.mem_cons, List.not_mem_nil, or_false] at hx
              rcases hx with rfl | rfl | rfl | rfl | rfl <;> rfl
            case c3 => unfold maxLen; omega
            case c4 => omega
            case c5 => simp; omega
            intro g1 cap1 wa ho1 hg1 _
            have ka := kept_app hg1
            have B3 := hB.pushS ka ho1
            have eF := ka.block F (tyOf_lt hB.gf.tF) (fun x => tyOf_ne hB.gf.tF (own_ty hB.gf.oS F x) (by decide) rfl)
            have aF1 := (World.cell?_of_block (a := ⟨F, 1, none⟩) eF).trans hB.gf.c1
            have afF := tyOf_frozen ((tyOf_congr eF).trans hB.gf.tF) 1
            have sza : w0.heap.size ≤ wa.heap.size := by have := B3.gf.kept.size; simpa using this
            clear hB ka ho1 hg1 eF hF1
            go_wp2_with (at_builtin; refine wpList_append2 rfl (.tmp 124) (.tmp 132) 52 rfl w0.heap.size 56 i56 (.agg #[.int .i32 0, .int .u8 0, .int .i32 0]) 3 12 Yba.underlying52 q0 q1 q2 q3 rfl (by decide) _ m (edL e m) rfl (B3.oE.alloc _) ⟨wa.heap.size, 0, none⟩ 1 1 [.int .i32 s, .int .u8 (T[k].toNat : Nat), .int .i32 N] rfl rfl ?c1 ?c2 ?c3 ?c4 ?c5 (by decide) ?_)
            case c1 =>
              intro j x hj
              have h := new_cells (wa.setCell ⟨F, 1, none⟩ (.slice (some ⟨g1, 0, none⟩) (N + 1) cap1)) #[.int .i32 s, .int .u8 (T[k].toNat : Nat), .int .i32 N] 56 j x hj
              rwa [show (wa.setCell ⟨F, 1, none⟩ (.slice (some ⟨g1, 0, none⟩) (N + 1) cap1)).heap.size = wa.heap.size from by simp] at h
            case c2 =>
              intro x hx
              simp only [List.mem_cons, List.not_mem_nil, or_false] at hx
              rcases hx with rfl | rfl | rfl <;> rfl
            case c3 => unfold maxLen; omega
            case c4 => omega
            case c5 => simp; omega
            intro g2 cap2 wb ho2 hg2 _
            have B4 := B3.pushE (x := ⟨s, T[k].toNat, N⟩) (kept_app hg2) ho2 ⟨_, _, rfl⟩
            have szb := B4.gf.kept.size
            clear B3 ho2 hg2 aF1 afF
            go_wp2_with (at_builtin; refine wpList_append2 rfl (.tmp 134) (.tmp 136) 33 rfl w0.heap.size 21 i21 (.int .i32 0) 1 4 Yba.underlying33 x0 x1 x2 x3 rfl (by decide) _ path.length (iL path) rfl (B4.oP.alloc _) ⟨wb.heap.size, 0, none⟩ 1 1 [.int .i32 N] rfl rfl ?c1 ?c2 ?c3 ?c4 ?c5 (by decide) ?_)
            case c1 => exact fun j x hj => new_cells wb #[.int .i32 N] 21 j x hj
            case c2 =>
              intro x hx
              rw [List.mem_singleton] at hx
              subst hx; rfl
            case c3 => unfold maxLen; omega
            case c4 => omega
            case c5 => simp; omega
            intro g3 cap3 wc ho3 hg3 _
            have B5 := B4.pushP (t := N) (kept_app hg3) ho3
            have hfin : BI Z w0 ad n cap A F EB (m + 1 + 1) (.slice (some ⟨g1, 0, none⟩) (N + 1) cap1) (fun x => if x = N then -1 else tt x) (m + 1) (.slice (some ⟨g2, 0, none⟩) (m + 1) cap2) (fun j => if j = m then ⟨s, T[k].toNat, N⟩ else e j) (path ++ [N]) (.slice (some ⟨g3, 0, none⟩) (path.length + 1) cap3) wc ∧ BD (PP tx od i) (bl T) (k + 1) (m + 1 + 1) (fun x => if x = m + 1 then bw ((bl T).take (k + 1)) else wd x) (fun j => if j = m then ⟨s, T[k].toNat, N⟩ else e j) (path ++ [N]) N := by
              have hN := HN.out
              subst hN
              exact ⟨B5, HD2.out⟩
            clear B4 B5 ho3 hg3 HD2 HN
            go_wp2_with fail
            go_roundw
            case rel => exact ⟨k + 1, m + 1, _, _, _, _, _, N, by omega, by omega, by go_num, rfl, hfin.1, hfin.2, by omega⟩
            case measure => simp [intOf]; omega
          · have hkI : (T.size : Int) ≤ (k : Int) := by omega
            have B6 := hB.setT (id := od i) hsN
            have hsN2 : (s : Int) < ((m + 1 : Nat) : Int) := by omega
            have hs0 : (0 : Int) ≤ (s : Int) := by omega
            have tS := own_ty hB.gf.oS SB rfl
            have fz := tyOf_frozen tS
            have cs3 := (hB.gf.oS.cellAt (s * 5 + 3) (by have := sL_len tt (m + 1); omega)).trans (sL_get tt (m + 1) s 3 hsN (by omega))
            have hfin : OD tx od (i + 1) (m + 1) wd e path T := by
              have hT := HT.out
              subst hT
              have e : k = (tx (od i)).size := by omega
              rw [e] at hD hnb
              exact hD.leave z2 hnb
            obtain ⟨N, hN⟩ : ∃ N, m + 1 = N := ⟨_, rfl⟩
            have HB6 : Aside _ := B6
            rw [hN] at hF1 hsN2
            clear B6 hD hB tS hN
            go_wp2_with fail
            go_roundw
            case rel => exact ⟨i + 1, m, _, _, e, wd, path, T, by omega, by go_num, rfl, HB6.out, hfin⟩
            case measure => simp [intOf]; omega
    · have e1 : i = n := by omega
      subst e1
      have hm6 : m ≤ 65536 := by have := hD.nb; omega
      have hbd := hD.bld
      clear hD
      go_wp2_with fail
      have hQ := HQQ.out
      exact hQ _ _ _ _ _ _ _ _ _ _ _ _ _ _ _ _ _ _ _ _ _ _ _ _ _ _ _ _ _ _ _ _ _ _ _ _ _ _ _ _ _ _ _ _ _ _ _ _ _ _ _ _ _ _ _ _ _ _ _ _ _ _ _ _ _ _ _ _ _ _ _ _ m vS _ tt e wd path wr hB hbd hm6
end Go.Proofs.Ybulkckss
