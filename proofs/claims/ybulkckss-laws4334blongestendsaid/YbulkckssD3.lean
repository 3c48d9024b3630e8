import Derived.Test.YbulkckssD2
namespace Go.Proofs.Ybulkckss
open Go.RowKit

section
variable {F SB EB N M ks ke : Nat} {st : Nat → Nat → Int} {ed : Nat → Nat × Nat} {sta : Nat → Nat} {TB : Nat} {tv : Value} {base : Nat} {bs : List Nat} {cl : Nat → Nat} {v vD : Value} {nc : Nat} {w0 w w' : World}
theorem DX.keptD {DB : Nat} (h : DX F SB EB N M ks ke st ed sta TB tv base bs cl v vD nc w0 w) (k : Kept (fun j => j = DB) w w') (ht : tyOf w DB = some 21) (hb : w0.heap.size ≤ DB) : DX F SB EB N M ks ke st ed sta TB tv base bs cl v vD nc w0 w' :=
  ⟨h.dm.kept k (fun e => tyOf_ne h.dm.fm.tF ht (by decide) e) (fun e => tyOf_ne h.dm.fm.tS ht (by decide) e) (fun e => tyOf_ne h.dm.fm.tE ht (by decide) e) (fun e => tyOf_ne h.dm.tB ht (by decide) e),
    k.owns h.row (fun g hg e => tyOf_ne (own_tyd h.row g hg).2 ht (by decide) e), ⟨k.os.trans h.kept.os, k.tape.trans h.kept.tape, k.output.trans h.kept.output, Nat.le_trans h.kept.size k.size, fun j hj hS => (k.block j (Nat.lt_of_lt_of_le hj h.kept.size) (by omega)).trans (h.kept.block j hj hS)⟩, Nat.le_trans h.le k.size, h.b0⟩
theorem kept_setCells (b : Nat) : ∀ (vs : List Value) (o : Nat) (w : World), Kept (fun j => j = b) w (w.setCells b o vs)
  | [], _, w => Kept.refl _ w
  | x :: vs, o, w => ((Kept.refl (fun j => j = b) w).setCell rfl x).trans (kept_setCells b vs (o + 1) (w.setCell ⟨b, o, none⟩ x))
theorem ty_setCells {b : Nat} {t : TypeId} : ∀ (vs : List Value) (o : Nat) (w : World), tyOf w b = some t → tyOf (w.setCells b o vs) b = some t
  | [], _, _, h => h
  | x :: vs, o, w, h => ty_setCells vs (o + 1) (w.setCell ⟨b, o, none⟩ x) ((set_ty h).trans h)
end
theorem pos_lt {N nc s c : Nat} (hs : s < N) (hc : c < nc) : s * nc + c < N * nc := by
  have : (s + 1) * nc ≤ N * nc := Nat.mul_le_mul_right _ hs
  rw [Nat.add_mul] at this
  omega
theorem pos_ne {nc s x c : Nat} (hx : x ≠ s) (hc : c < nc) : ¬ (s * nc ≤ x * nc + c ∧ x * nc + c < s * nc + nc) := fun ⟨h1, h2⟩ => by
  rcases Nat.lt_or_gt_of_ne hx with h | h
  · have : (x + 1) * nc ≤ s * nc := Nat.mul_le_mul_right _ h
    rw [Nat.add_mul] at this
    omega
  · have : (s + 1) * nc ≤ x * nc := Nat.mul_le_mul_right _ h
    rw [Nat.add_mul] at this
    omega
def cpL (g : Nat → Int) (fo nc : Nat) : List Value := (List.range nc).map fun j => .int .i32 (g (fo + j))
theorem cpL_len (g : Nat → Int) (fo nc : Nat) : (cpL g fo nc).length = nc := by simp [cpL]
theorem cpL_get {g : Nat → Int} {fo nc j : Nat} (h : j < nc) : (cpL g fo nc)[j]? = some (.int .i32 (g (fo + j))) := by simp [cpL, List.getElem?_range h]
theorem RowD.copy {DB K so fo nc : Nat} {g : Nat → Int} {w : World} (h : RowD DB K g w) (h1 : so + nc ≤ K) : RowD DB K (fun k => if so ≤ k ∧ k < so + nc then g (fo + (k - so)) else g k) (w.setCells DB so (cpL g fo nc)) := by
  refine ⟨ty_setCells _ _ _ h.1, fun k hk => ?_⟩
  show _ = some (Value.int .i32 (if so ≤ k ∧ k < so + nc then g (fo + (k - so)) else g k))
  by_cases c : so ≤ k ∧ k < so + nc
  · rw [if_pos c]
    have hj : k - so < (cpL g fo nc).length := by rw [cpL_len]; omega
    have := World.cell?_setCells_in DB (cpL g fo nc) so w (fun j hj => by rw [cpL_len] at hj; rw [h.2 (so + j) (by omega)]; rfl) (k - so) hj
    rw [show so + (k - so) = k from by omega] at this
    rw [this]
    congr 1
    have e := cpL_get (g := g) (fo := fo) (nc := nc) (j := k - so) (by omega)
    rw [List.getElem?_eq_getElem hj] at e
    exact Option.some.inj e
  · rw [if_neg c, World.cell?_setCells_out DB (cpL g fo nc) so w ⟨DB, k, none⟩ (fun _ _ => by rw [cpL_len]; show k < so ∨ so + nc ≤ k; omega)]
    exact h.2 k hk
theorem run_copyD {DB K so fo nc : Nat} {g : Nat → Int} {w : World} (h : RowD DB K g w) (h1 : so + nc ≤ K) (h2 : fo + nc ≤ K) (c1 c2 : Nat) (ty : TypeId) :
    (Builtin.copy_ #[33, 33] ty #[.slice (some ⟨DB, so, none⟩) nc c1, .slice (some ⟨DB, fo, none⟩) nc c2]).run Yba.prog w = .ok (.int .i64 nc) (w.setCells DB so (cpL g fo nc)) := by
  have hl := cpL_len g fo nc
  have := run_copy_cells (P := Yba.prog) w 33 33 ty 21 DB so nc c1 ⟨DB, fo, none⟩ nc c2 (cpL g fo nc) Yba.underlying33 (by obtain ⟨i0, x0, _, x2, _⟩ := info_parts Yba.info21d; rw [x0, ← x2]; rfl) (by rw [hl]; exact (Nat.min_self nc).symm)
    (fun j x hj => by
      have hjl := (List.getElem?_eq_some_iff.1 hj).1
      rw [hl] at hjl
      rw [cpL_get hjl] at hj
      rw [show (⟨DB, fo, none⟩ : Addr).add j = ⟨DB, fo + j, none⟩ from by unfold Addr.add; split <;> simp_all, h.2 (fo + j) (by omega)]
      exact hj)
    (fun j hj => by rw [hl] at hj; rw [h.2 (so + j) (by omega)]; rfl) (fun j _ => tyOf_frozen h.1 _)
    (fun x hx => by
      obtain ⟨j, hj⟩ := List.mem_iff_getElem?.1 hx
      have hjl := (List.getElem?_eq_some_iff.1 hj).1
      rw [hl] at hjl
      rw [cpL_get hjl] at hj
      rw [← Option.some.inj hj]; rfl)
  rw [this, hl]
  rfl
/-- row s of the dense row is right -/
def RowOK (N : Nat) (wd : Nat → List Nat) (st : Nat → Nat → Int) (cl : Nat → Nat) (nc : Nat) (g : Nat → Int) (s : Nat) : Prop := ∀ b, b < 256 → ∃ t, LS N wd (wd s ++ [b]) t ∧ g (s * nc + cl b) = ent st nc t
theorem Cls.inj {bs : List Nat} {cl : Nat → Nat} (h : Cls bs cl) {b b' : Nat} (h0 : cl b' ≠ 0) (e : cl b = cl b') : b = b' := by
  have h1 := h.z b (by omega)
  have h2 := h.z b' h0
  rw [e, h2] at h1
  exact (Option.some.inj h1).symm
theorem row_zero {N M nc : Nat} {wd : Nat → List Nat} {ef et sta cl : Nat → Nat} {ed : Nat → Nat × Nat} {st : Nat → Nat → Int} {g : Nat → Int} {bs : List Nat} (T : Trie N wd) (E : FE N M wd ef et ed sta) (C : Cls bs cl) (hs0 : st 0 4 < 0) (hw : ∀ s t b, s < N → t < N → wd t = wd s ++ [b] → cl b ≠ 0) (g0 : g 0 = 0) (hg : ∀ (j b : Nat), bs[j]? = some b → g (j + 1) = ent st nc (sta b)) : RowOK N wd st cl nc g 0 := fun b hb => by
  have hls : LS N wd (wd 0 ++ [b]) (sta b) := by
    rw [T.root]
    rcases E.sta b hb with ⟨e, hno⟩ | ⟨_, h1, h2⟩
    · rw [e]; exact LS.start T hno
    · have := LS.edge (wd := wd) (N := N) (s := 0) (t := sta b) (b := b) h1 (by rw [T.root]; exact h2)
      rwa [T.root] at this
  refine ⟨sta b, hls, ?_⟩
  rw [Nat.zero_mul, Nat.zero_add]
  by_cases c : cl b = 0
  · have e0 : sta b = 0 := by
      rcases E.sta b hb with ⟨e, _⟩ | ⟨_, h1, h2⟩
      · exact e
      · exact absurd c (hw 0 (sta b) b T.pos h1 (by rw [T.root]; exact h2))
    rw [c, g0, e0]
    unfold ent
    rw [if_neg (by omega)]
    simp
  · have := hg (cl b - 1) b (C.z b c)
    rwa [show cl b - 1 + 1 = cl b from by omega] at this

set_option maxHeartbeats 4000000 in
set_option maxRecDepth 100000 in
/-- the start's row -/
theorem dtm7 (F SB EB N M ks ke : Nat) (st : Nat → Nat → Int) (ed : Nat → Nat × Nat) (sta : Nat → Nat) (TB : Nat) (tv : Value) (base : Nat) (bs : List Nat) (cl : Nat → Nat) (va : Option Addr) (vc DB K nc : Nat) (w0 w : World) (C : Cls bs cl) (hnc : Hid (nc = bs.length + 1)) (hKe : Hid (N * nc = K)) (hK : K ≤ 1048576) (hN0 : 0 < N) (hsta : ∀ b, b < 256 → sta b < N) (hDB : w0.heap.size ≤ DB) (h : DX F SB EB N M ks ke st ed sta TB tv base bs cl (.slice va bs.length vc) (.slice (some ⟨DB, 0, none⟩) K K) nc w0 w) (hr : RowD DB K (fun _ => 0) w) (Q : Exit → Act → World → Prop) (c0 c1 c3 c5 c6 c7 c9 c10 c11 c12 c13 c14 c15 c16 c17 c18 c19 c20 c21 c22 c23 c24 c25 c26 c27 c28 c29 c30 c31 c32 c33 c34 c35 c36 c37 c38 c39 c40 c41 c42 c43 c44 c45 c46 c47 c48 c49 c50 c51 c52 c53 c54 c55 c56 c57 c58 c59 c60 c61 c62 c63 c64 c65 c66 c67 c68 c69 c70 c71 c72 c73 c74 c75 c76 c77 c78 c79 c80 c81 c82 c83 c84 c85 c86 c87 c88 c89 c90 c91 c92 c93 c94 c95 c96 c97 c98 c99 c100 c101 c102 c103 c104 c105 c106 c107 c108 c109 c110 c111 c112 c113 c114 c115 c116 c117 c118 c119 c120 c121 c122 c123 c124 c125 c126 c127 c128 c129 c130 c131 c132 c133 c134 c135 c136 c137 c138 c139 c140 c141 c142 c143 c144 c145 c146 c147 c148 c149 c150 c151 c152 c153 c154 c155 c156 c157 c158 c159 c160 c161 c162 c163 c164 c165 c166 c167 c168 c169 c170 c171 c172 c173 c174 c175 c176 c177 c178 c179 c180 c181 c182 c183 c184 c185 c186 c187 c188 c189 c190 c191 c192 c193 c194 c195 c196 : Value)
    (hQ : ∀ (u9 u10 u90 u91 u92 u93 u94 u95 u96 u97 u98 u99 u100 u101 u102 u103 u104 u105 u106 u107 u108 u109 u110 u111 u112 : Value) (g : Nat → Int) (w' : World), DX F SB EB N M ks ke st ed sta TB tv base bs cl (.slice va bs.length vc) (.slice (some ⟨DB, 0, none⟩) K K) nc w0 w' → RowD DB K g w' → g 0 = 0 → (∀ (j b : Nat), bs[j]? = some b → g (j + 1) = ent st nc (sta b)) → Q .normal ⟨#[c0, c1, .pointer (some ⟨TB, 0, none⟩), c3, .slice va bs.length vc, c5, c6, c7, .func (.func 28) #[] #[.pointer (some ⟨TB, 0, none⟩)], u9, u10, c11, c12, c13, c14, c15, c16, c17, c18, c19, c20, c21, c22, c23, c24, c25, c26, c27, c28, c29, c30, c31, c32, c33, c34, c35, c36, c37, c38, c39, c40, c41, c42, c43, c44, c45, c46, c47, c48, c49, c50, c51, c52, c53, c54, c55, c56, c57, c58, c59, c60, c61, c62, c63, c64, c65, c66, c67, c68, c69, c70, c71, c72, c73, c74, c75, c76, c77, c78, c79, c80, c81, c82, c83, c84, c85, c86, c87, c88, c89, u90, u91, u92, u93, u94, u95, u96, u97, u98, u99, u100, u101, u102, u103, u104, u105, u106, u107, u108, u109, u110, u111, u112, c113, c114, c115, c116, c117, c118, c119, c120, c121, c122, c123, c124, c125, c126, c127, c128, c129, c130, c131, c132, c133, c134, c135, c136, c137, c138, c139, c140, c141, c142, c143, c144, c145, c146, c147, c148, c149, c150, c151, c152, c153, c154, c155, c156, c157, c158, c159, c160, c161, c162, c163, c164, c165, c166, c167, c168, c169, c170, c171, c172, c173, c174, c175, c176, c177, c178, c179, c180, c181, c182, c183, c184, c185, c186, c187, c188, c189, c190, c191, c192, c193, c194, c195, c196], []⟩ w') :
    Code.wp Yba.prog (dtm 7) Q ⟨#[c0, c1, .pointer (some ⟨TB, 0, none⟩), c3, .slice va bs.length vc, c5, c6, c7, .func (.func 28) #[] #[.pointer (some ⟨TB, 0, none⟩)], c9, c10, c11, c12, c13, c14, c15, c16, c17, c18, c19, c20, c21, c22, c23, c24, c25, c26, c27, c28, c29, c30, c31, c32, c33, c34, c35, c36, c37, c38, c39, c40, c41, c42, c43, c44, c45, c46, c47, c48, c49, c50, c51, c52, c53, c54, c55, c56, c57, c58, c59, c60, c61, c62, c63, c64, c65, c66, c67, c68, c69, c70, c71, c72, c73, c74, c75, c76, c77, c78, c79, c80, c81, c82, c83, c84, c85, c86, c87, c88, c89, c90, c91, c92, c93, c94, c95, c96, c97, c98, c99, c100, c101, c102, c103, c104, c105, c106, c107, c108, c109, c110, c111, c112, c113, c114, c115, c116, c117, c118, c119, c120, c121, c122, c123, c124, c125, c126, c127, c128, c129, c130, c131, c132, c133, c134, c135, c136, c137, c138, c139, c140, c141, c142, c143, c144, c145, c146, c147, c148, c149, c150, c151, c152, c153, c154, c155, c156, c157, c158, c159, c160, c161, c162, c163, c164, c165, c166, c167, c168, c169, c170, c171, c172, c173, c174, c175, c176, c177, c178, c179, c180, c181, c182, c183, c184, c185, c186, c187, c188, c189, c190, c191, c192, c193, c194, c195, c196], []⟩ w := by
  have hlen := C.len
  have hlI : (bs.length : Int) ≤ 256 := by omega
  have hc7 : nc ≤ 257 := by have := hnc.out; omega
  have hK1 : bs.length + 1 ≤ K := by
    have h1 : 1 * nc ≤ N * nc := Nat.mul_le_mul_right _ hN0
    have h2 := hnc.out
    have h3 := hKe.out
    omega
  have HQQ : Aside _ := hQ
  have HST : Aside _ := hsta
  clear hQ hsta
  conv => arg 2; whnf
  go_wp2_with fail
  go_loopw [9, 10, 92] (fun _ _ x wr => ∃ (c : Nat) (g : Nat → Int), c ≤ bs.length ∧ x = .int .i64 c ∧ DX F SB EB N M ks ke st ed sta TB tv base bs cl (.slice va bs.length vc) (.slice (some ⟨DB, 0, none⟩) K K) nc w0 wr ∧ RowD DB K g wr ∧ g 0 = 0 ∧ ∀ (j b : Nat), j < c → bs[j]? = some b → g (j + 1) = ent st nc (sta b)) (fun _ _ x _ => 256 - (intOf x).toNat)
  case atStart => exact ⟨0, fun _ => 0, by omega, rfl, h, hr, rfl, fun j b hj => by omega⟩
  case round =>
    clear h hr
    obtain ⟨c, g, hc, rfl, hD, hR, hg0, hg⟩ := hrel
    by_cases hlt : c < bs.length
    · have hI : (c : Int) < (bs.length : Int) := by omega
      have hI0 : (0 : Int) ≤ (c : Int) := by omega
      obtain ⟨b, hb⟩ : ∃ b, bs[c]? = some b := ⟨_, List.getElem?_eq_getElem hlt⟩
      obtain ⟨gg, cp, hv, _, _, _, _, hcell⟩ := row_at hD.row (by omega)
      simp only [Value.slice.injEq] at hv
      obtain ⟨rfl, -, hcp⟩ := hv
      subst hcp
      have cb : wr.cell? ⟨gg, c, none⟩ = some (.int .u8 b) := (hcell c hlt).trans (by simp [bL, hb])
      have hb8 := (C.a c b hb).1
      have hbI : (b : Int) < 256 := by omega
      have hsb := HST.out b hb8
      have hDd := hD.new (Below.refl _ _).drew
      have CC := entry_call hDd.dm hsb (by rw [hKe.out]; exact hK) hc7
      have bx := hD.dm.bx
      have cD := hD.dm.cD
      have cA := hD.dm.fm.cA b hb8
      have cr := hR.2 (c + 1) (by omega)
      have fz := tyOf_frozen hR.1
      have k1 : (c : Int) + 1 < (K : Int) := by omega
      have k2 : (0 : Int) ≤ (c : Int) + 1 := by omega
      have k3 : ((c : Int) + 1).toNat = c + 1 := by omega
      have k4 : IntKind.i64.wrap ((c : Int) + 1) = (c : Int) + 1 := by rw [IntKind.wrap_i64]; omega
      have S1 : wr.drew.cell? ⟨TB, 0, none⟩ = some (.pointer (some ⟨F, 0, none⟩)) ∧ wr.drew.cell? ⟨F, 259, none⟩ = some (.slice (some ⟨DB, 0, none⟩) K K) ∧ wr.drew.cell? ⟨F, 3 + b, none⟩ = some (.int .i32 (sta b)) := ⟨bx, cD, cA⟩
      have hD2 := fun x : Value => (hD.other (o := c + 1) (x := x) hR.1 hDB).new (Below.refl _ _).drew
      have S2 : ∀ x, (wr.setCell ⟨DB, c + 1, none⟩ x).drew.cell? ⟨TB, 0, none⟩ = some (.pointer (some ⟨F, 0, none⟩)) ∧ (wr.setCell ⟨DB, c + 1, none⟩ x).drew.cell? ⟨F, 259, none⟩ = some (.slice (some ⟨DB, 0, none⟩) K K) ∧ (wr.setCell ⟨DB, c + 1, none⟩ x).drew.cell? ⟨F, 3 + b, none⟩ = some (.int .i32 (sta b)) := fun x => ⟨(hD2 x).dm.bx, (hD2 x).dm.cD, (hD2 x).dm.fm.cA b hb8⟩
      have hR2 : RowD DB K (fun k => if k = c + 1 then ent st nc (sta b) else g k) (wr.setCell ⟨DB, c + 1, none⟩ (.int .i32 (ent st nc (sta b)))).drew := (hR.set (c + 1) (ent st nc (sta b))).kept (Kept.new (S := fun _ => False) (Below.refl _ _).drew) (fun x => x)
      have hg2 : ∀ (j x : Nat), j < c + 1 → bs[j]? = some x → (if j + 1 = c + 1 then ent st nc (sta b) else g (j + 1)) = ent st nc (sta x) := fun j x hj hx => by
        by_cases e : j = c
        · rw [if_pos (by omega)]
          rw [e, hb] at hx
          rw [Option.some.inj hx]
        · rw [if_neg (by omega)]
          exact hg j x (by omega) hx
      have hg02 : (if 0 = c + 1 then ent st nc (sta b) else g 0) = 0 := by rw [if_neg (by omega)]; exact hg0
      have HG2 : Aside _ := hg2
      have HG0 : Hid ((if 0 = c + 1 then ent st nc (sta b) else g 0) = 0) := hg02
      have hfin := hD2 (.int .i32 (ent st nc (sta b)))
      generalize hEE : ent st nc (sta b) = EE at *
      clear hg hg0 hg2 hg02 hcell hb hD hR hDd hD2 hEE
      go_wp2_with fail
      go_region_held3 (fun w' => w'.cell? ⟨TB, 0, none⟩ = some (.pointer (some ⟨F, 0, none⟩)) ∧ w'.cell? ⟨F, 259, none⟩ = some (.slice (some ⟨DB, 0, none⟩) K K) ∧ w'.cell? ⟨F, 3 + b, none⟩ = some (.int .i32 (sta b))) (first | exact S2 _ | exact S1 | go_keep)
        (first | (go_at_call 28; refine CC.mono ?_; rintro e w1 ⟨rfl, rfl⟩))
      clear S1 S2 CC
      go_wp2_with fail
      go_roundw
      case rel => exact ⟨c + 1, _, by omega, by go_num, hfin, hR2, HG0.out, HG2.out⟩
      case measure => simp [intOf]; omega
    · have hg2 : ∀ (j b : Nat), bs[j]? = some b → g (j + 1) = ent st nc (sta b) := fun j b hj => hg j b (by have := (List.getElem?_eq_some_iff.1 hj).1; omega) hj
      have hI : (bs.length : Int) ≤ (c : Int) := by omega
      have HG : Aside _ := hg2
      have HG0 : Hid (g 0 = 0) := hg0
      clear hg hg0 hg2
      go_wp2_with fail
      have hQ := HQQ.out
      exact hQ _ _ _ _ _ _ _ _ _ _ _ _ _ _ _ _ _ _ _ _ _ _ _ _ _ g wr hD hR HG0.out HG.out

set_option maxHeartbeats 4000000 in
set_option maxRecDepth 100000 in
/-- the states by depth -/
theorem dtm8 (qa : Option Addr) (qn qc : Nat) (w : World)  (Q : Exit → Act → World → Prop) (c0 c2 c3 c4 c5 c6 c7 c8 c9 c10 c11 c12 c13 c14 c15 c16 c17 c18 c19 c20 c21 c22 c23 c24 c25 c26 c27 c28 c29 c30 c31 c32 c33 c34 c35 c36 c37 c38 c39 c40 c41 c42 c43 c44 c45 c46 c47 c48 c49 c50 c51 c52 c53 c54 c55 c56 c57 c58 c59 c60 c61 c62 c63 c64 c65 c66 c67 c68 c69 c70 c71 c72 c73 c74 c75 c76 c77 c78 c79 c80 c81 c82 c83 c84 c85 c86 c87 c88 c89 c90 c91 c92 c93 c94 c95 c96 c97 c98 c99 c100 c101 c102 c103 c104 c105 c106 c107 c108 c109 c110 c111 c112 c113 c114 c115 c116 c117 c118 c119 c120 c121 c122 c123 c124 c125 c126 c127 c128 c129 c130 c131 c132 c133 c134 c135 c136 c137 c138 c139 c140 c141 c142 c143 c144 c145 c146 c147 c148 c149 c150 c151 c152 c153 c154 c155 c156 c157 c158 c159 c160 c161 c162 c163 c164 c165 c166 c167 c168 c169 c170 c171 c172 c173 c174 c175 c176 c177 c178 c179 c180 c181 c182 c183 c184 c185 c186 c187 c188 c189 c190 c191 c192 c193 c194 c195 c196 : Value)
    (hQ : ∀   (w' : World), w' = w → Q .normal ⟨#[c0, .slice qa qn qc, c2, c3, c4, c5, c6, c7, c8, c9, c10, c11, c12, c13, c14, c15, c16, c17, c18, c19, c20, c21, c22, c23, c24, c25, c26, c27, c28, c29, c30, c31, c32, c33, c34, c35, c36, c37, c38, c39, c40, c41, c42, c43, c44, c45, c46, c47, c48, c49, c50, c51, c52, c53, c54, c55, c56, c57, c58, c59, c60, c61, c62, c63, c64, c65, c66, c67, c68, c69, c70, c71, c72, c73, c74, c75, c76, c77, c78, c79, c80, c81, c82, c83, c84, c85, c86, c87, c88, c89, c90, c91, c92, c93, c94, c95, c96, c97, c98, c99, c100, c101, c102, c103, c104, c105, c106, c107, c108, c109, c110, c111, c112, .slice qa qn qc, .int .i64 qn, .int .i64 0, c116, c117, c118, c119, c120, c121, c122, c123, c124, c125, c126, c127, c128, c129, c130, c131, c132, c133, c134, c135, c136, c137, c138, c139, c140, c141, c142, c143, c144, c145, c146, c147, c148, c149, c150, c151, c152, c153, c154, c155, c156, c157, c158, c159, c160, c161, c162, c163, c164, c165, c166, c167, c168, c169, c170, c171, c172, c173, c174, c175, c176, c177, c178, c179, c180, c181, c182, c183, c184, c185, c186, c187, c188, c189, c190, c191, c192, c193, c194, c195, c196], []⟩ w') :
    Code.wp Yba.prog (dtm 8) Q ⟨#[c0, .slice qa qn qc, c2, c3, c4, c5, c6, c7, c8, c9, c10, c11, c12, c13, c14, c15, c16, c17, c18, c19, c20, c21, c22, c23, c24, c25, c26, c27, c28, c29, c30, c31, c32, c33, c34, c35, c36, c37, c38, c39, c40, c41, c42, c43, c44, c45, c46, c47, c48, c49, c50, c51, c52, c53, c54, c55, c56, c57, c58, c59, c60, c61, c62, c63, c64, c65, c66, c67, c68, c69, c70, c71, c72, c73, c74, c75, c76, c77, c78, c79, c80, c81, c82, c83, c84, c85, c86, c87, c88, c89, c90, c91, c92, c93, c94, c95, c96, c97, c98, c99, c100, c101, c102, c103, c104, c105, c106, c107, c108, c109, c110, c111, c112, c113, c114, c115, c116, c117, c118, c119, c120, c121, c122, c123, c124, c125, c126, c127, c128, c129, c130, c131, c132, c133, c134, c135, c136, c137, c138, c139, c140, c141, c142, c143, c144, c145, c146, c147, c148, c149, c150, c151, c152, c153, c154, c155, c156, c157, c158, c159, c160, c161, c162, c163, c164, c165, c166, c167, c168, c169, c170, c171, c172, c173, c174, c175, c176, c177, c178, c179, c180, c181, c182, c183, c184, c185, c186, c187, c188, c189, c190, c191, c192, c193, c194, c195, c196], []⟩ w := by
  have HQQ : Aside _ := hQ
  clear hQ
  conv => arg 2; whnf
  go_wp2_with fail
  have hQ := HQQ.out
  exact hQ  _ rfl
end Go.Proofs.Ybulkckss
