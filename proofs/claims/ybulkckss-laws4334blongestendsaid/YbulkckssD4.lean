import Derived.Test.YbulkckssD3
namespace Go.Proofs.Ybulkckss
open Go.RowKit

/-- row s while its edges are laid over the row of its fail link -/
def RowP (N : Nat) (wd : Nat → List Nat) (st : Nat → Nat → Int) (cl : Nat → Nat) (nc : Nat) (ed : Nat → Nat × Nat) (e0 f so k : Nat) (g : Nat → Int) : Prop :=
  ∀ b, b < 256 → (∃ j, j < k ∧ (ed (e0 + j)).1 = b ∧ g (so + cl b) = ent st nc (ed (e0 + j)).2) ∨ ((∀ j, j < k → (ed (e0 + j)).1 ≠ b) ∧ ∃ t, LS N wd (wd f ++ [b]) t ∧ g (so + cl b) = ent st nc t)
section
variable {N M : Nat} {wd : Nat → List Nat} {st : Nat → Nat → Int} {cl ef et sta : Nat → Nat} {nc : Nat} {ed : Nat → Nat × Nat} {e0 f so s k : Nat} {g : Nat → Int} {bs : List Nat}
theorem RowP.init (h : RowOK N wd st cl nc g f) (hcl : ∀ b, cl b < nc) {fo : Nat} (hf : f * nc = fo) : RowP N wd st cl nc ed e0 f so 0 (fun k => if so ≤ k ∧ k < so + nc then g (fo + (k - so)) else g k) := fun b hb => by
  right
  refine ⟨fun j hj => by omega, ?_⟩
  obtain ⟨t, h1, h2⟩ := h b hb
  refine ⟨t, h1, ?_⟩
  have := hcl b
  dsimp only
  rw [if_pos ⟨by omega, by omega⟩, show fo + (so + cl b - so) = f * nc + cl b from by omega]
  exact h2
theorem RowP.step (h : RowP N wd st cl nc ed e0 f so k g) (C : Cls bs cl) (h0 : cl (ed (e0 + k)).1 ≠ 0) : RowP N wd st cl nc ed e0 f so (k + 1) (fun x => if x = so + cl (ed (e0 + k)).1 then ent st nc (ed (e0 + k)).2 else g x) := fun b hb => by
  by_cases e : (ed (e0 + k)).1 = b
  · left
    exact ⟨k, by omega, e, by dsimp only; rw [if_pos (by rw [e])]⟩
  · have hn : ¬ so + cl b = so + cl (ed (e0 + k)).1 := fun x => e (C.inj h0 (by omega)).symm
    rcases h b hb with ⟨j, j1, j2, j3⟩ | ⟨j1, t, j2, j3⟩
    · exact .inl ⟨j, by omega, j2, by dsimp only; rw [if_neg hn]; exact j3⟩
    · refine .inr ⟨fun j hj => ?_, t, j2, by dsimp only; rw [if_neg hn]; exact j3⟩
      by_cases c : j = k
      · rw [c]; exact e
      · exact j1 j (by omega)
theorem RowP.done (T : Trie N wd) (E : FE N M wd ef et ed sta) (hs0 : 0 < s) (hsN : s < N) (hf : LP N wd (wd s) f) (h : RowP N wd st cl nc ed (ef s) f so (et s - ef s) g) (hso : s * nc = so) : RowOK N wd st cl nc g s := fun b hb => by
  have hle := E.le s hs0 hsN
  rw [hso]
  rcases h b hb with ⟨j, j1, j2, j3⟩ | ⟨j1, t, j2, j3⟩
  · obtain ⟨o1, _, o3⟩ := E.ok s (ef s + j) hs0 hsN (by omega) (by omega)
    rw [j2] at o3
    exact ⟨_, LS.edge o1 o3, j3⟩
  · refine ⟨t, LS.fail T (fun x hx e => ?_) hf j2, j3⟩
    obtain ⟨j, a1, a2, a3⟩ := E.all s x b hs0 hsN hx e
    refine j1 (j - ef s) (by omega) ?_
    rw [show ef s + (j - ef s) = j from by omega, a3]
theorem RowOK.other {g' : Nat → Int} {x : Nat} (h : RowOK N wd st cl nc g x) (hcl : ∀ b, cl b < nc) (hx : x ≠ s) (hso : s * nc = so) (hg : ∀ k, ¬ (so ≤ k ∧ k < so + nc) → g' k = g k) : RowOK N wd st cl nc g' x := fun b hb => by
  obtain ⟨t, h1, h2⟩ := h b hb
  refine ⟨t, h1, ?_⟩
  rw [hg _ (by rw [← hso]; exact pos_ne hx (hcl b))]
  exact h2
end
theorem Bfs.before {N : Nat} {wd : Nat → List Nat} {q : List Nat} {i s f : Nat} (T : Trie N wd) (h : Bfs N wd q q.length) (hs : q[i]? = some s) (f0 : 0 < f) (fN : f < N) (hl : (wd f).length < (wd s).length) : ∃ p : Nat, p < i ∧ q[p]? = some f := by
  obtain ⟨p, hp⟩ := List.mem_iff_getElem?.1 (h.all T _ f (Nat.le_refl _) f0 fN)
  refine ⟨p, Nat.lt_of_not_le fun hge => ?_, hp⟩
  have := h.srt i p s f hge hs hp
  omega
/-- copy inside the dense row, as a step of a region that draws -/
theorem step_copyD {ops : Array Oper} {o : Oper} {a : Act} {w : World} {KK : Act → World → Prop} {Q : Exit → Act → World → Prop} {E : Prop} (hgd : o.guard = none) (d s : Operand) (ho : o.op = .call { callee := .builtin .copy, args := #[d, s], argTypes := #[33, 33] }) (DB K so fo nc c1 c2 : Nat) (g : Nat → Int)
    (hd : a.eval d = .slice (some ⟨DB, so, none⟩) nc c1) (hs : a.eval s = .slice (some ⟨DB, fo, none⟩) nc c2) (hr : RowD DB K g w) (h1 : so + nc ≤ K) (h2 : fo + nc ≤ K) (h : KK (a.put o.dst (.int .i64 nc)) (w.setCells DB so (cpL g fo nc))) :
    if Region.wanted o (yielded ops a.tmps) = true then Oper.wp Yba.prog o a w KK Q else E := by
  have hw : Region.wanted o (yielded ops a.tmps) = true := by simp [Region.wanted, hgd]
  rw [if_pos hw]
  have hrun := run_copyD hr h1 h2 c1 c2 o.type
  unfold Oper.wp
  simp [execOp, ho, resolve, invoke, builtin, hd, hs, hrun, Result.andThen]
  exact h
theorem alloc_at2 (w : World) (a b : Value) (t : TypeId) : (w.alloc (.cells #[a, b] t)).cell? ⟨w.heap.size, 0, none⟩ = some a ∧ (w.alloc (.cells #[a, b] t)).cell? ⟨w.heap.size, 1, none⟩ = some b := by
  have e2 : (w.alloc (.cells #[a, b] t)).heap[w.heap.size]? = some (.cells #[a, b] t) := (MapKept.heap_alloc w _).1
  constructor <;> (simp only [World.cell?, e2]; rfl)

set_option maxHeartbeats 4000000 in
set_option maxRecDepth 100000 in
/-- the rows by depth -/
theorem dtm9 (F SB EB N M ks ke : Nat) (st : Nat → Nat → Int) (ed : Nat → Nat × Nat) (sta : Nat → Nat) (TB : Nat) (tv : Value) (base : Nat) (bs : List Nat) (cl : Nat → Nat) (v : Value) (DB K nc : Nat) (wd : Nat → List Nat) (ef et : Nat → Nat) (q : List Nat) (QB : Nat) (qa : Option Addr) (qc : Nat) (g0 : Nat → Int) (w0 w : World) (T : Trie N wd) (E : FE N M wd ef et ed sta) (C : Cls bs cl) (hnc : Hid (nc = bs.length + 1)) (hKe : Hid (N * nc = K)) (hK : K ≤ 1048576) (hDB : w0.heap.size ≤ DB) (hst : ∀ s, 0 < s → s < N → st s 0 = ef s ∧ st s 1 = et s) (hLP : ∀ s, 0 < s → s < N → ∃ f : Nat, st s 2 = f ∧ LP N wd (wd s) f) (hB : Bfs N wd q q.length) (hw : ∀ s t b, s < N → t < N → wd t = wd s ++ [b] → cl b ≠ 0) (hqa : 0 < q.length → qa = some ⟨QB, 0, none⟩ ∧ QB < w0.heap.size ∧ QB ≠ F) (hqc : ∀ (i s : Nat), q[i]? = some s → w0.cell? ⟨QB, i, none⟩ = some (.int .i32 s)) (h : DX F SB EB N M ks ke st ed sta TB tv base bs cl v (.slice (some ⟨DB, 0, none⟩) K K) nc w0 w) (hr : RowD DB K g0 w) (hok : RowOK N wd st cl nc g0 0) (Q : Exit → Act → World → Prop) (c0 c1 c3 c4 c5 c6 c7 c9 c10 c11 c12 c13 c14 c15 c16 c17 c18 c19 c20 c21 c22 c23 c24 c25 c26 c27 c28 c29 c30 c31 c32 c33 c34 c35 c36 c37 c38 c39 c40 c41 c42 c43 c44 c45 c46 c47 c48 c49 c50 c51 c52 c53 c54 c55 c56 c57 c58 c59 c60 c61 c62 c63 c64 c65 c66 c67 c68 c69 c70 c71 c72 c73 c74 c75 c76 c77 c78 c79 c80 c81 c82 c83 c84 c85 c86 c87 c88 c89 c90 c91 c92 c93 c94 c95 c96 c97 c98 c99 c100 c101 c102 c103 c104 c105 c106 c107 c108 c109 c110 c111 c112 c116 c117 c118 c119 c120 c121 c122 c123 c124 c125 c126 c127 c128 c129 c130 c131 c132 c133 c134 c135 c136 c137 c138 c139 c140 c141 c142 c143 c144 c145 c146 c147 c148 c149 c150 c151 c152 c153 c154 c155 c156 c157 c158 c159 c160 c161 c162 c163 c164 c165 c166 c167 c168 c169 c170 c171 c172 c173 c174 c175 c176 c177 c178 c179 c180 c181 c182 c183 c184 c185 c186 c187 c188 c189 c190 c191 c192 c193 c194 c195 c196 : Value)
    (hQ : ∀ (u12 u13 u14 u16 u115 u116 u117 u118 u119 u120 u121 u122 u123 u124 u125 u126 u127 u128 u129 u130 u131 u132 u133 u134 u135 u136 u137 u138 u139 u140 u141 u142 u143 u144 u145 u146 u147 u148 u149 u150 u151 u152 u153 u154 u155 u156 u157 u158 u159 u160 u161 u162 u163 u164 u165 u166 u167 u168 u169 u170 u171 u172 u173 u174 u175 u176 u177 u178 u179 u180 u181 u182 u183 u184 u185 u186 u187 u188 u189 u190 u191 u192 u193 u194 u195 u196 : Value) (g : Nat → Int) (w' : World), DX F SB EB N M ks ke st ed sta TB tv base bs cl v (.slice (some ⟨DB, 0, none⟩) K K) nc w0 w' → RowD DB K g w' → (∀ s, s < N → RowOK N wd st cl nc g s) → Q .normal ⟨#[c0, c1, .pointer (some ⟨TB, 0, none⟩), c3, c4, c5, c6, c7, .func (.func 28) #[] #[.pointer (some ⟨TB, 0, none⟩)], c9, c10, c11, u12, u13, u14, c15, u16, c17, c18, c19, c20, c21, c22, c23, c24, c25, c26, c27, c28, c29, c30, c31, c32, c33, c34, c35, c36, c37, c38, c39, c40, c41, c42, c43, c44, c45, c46, c47, c48, c49, c50, c51, c52, c53, c54, c55, c56, c57, c58, c59, c60, c61, c62, c63, c64, c65, c66, c67, c68, c69, c70, c71, c72, c73, c74, c75, c76, c77, c78, c79, c80, c81, c82, c83, c84, c85, c86, c87, c88, c89, c90, c91, c92, c93, c94, c95, c96, c97, c98, c99, c100, c101, c102, c103, c104, c105, c106, c107, c108, c109, c110, c111, c112, .slice qa q.length qc, .int .i64 q.length, u115, u116, u117, u118, u119, u120, u121, u122, u123, u124, u125, u126, u127, u128, u129, u130, u131, u132, u133, u134, u135, u136, u137, u138, u139, u140, u141, u142, u143, u144, u145, u146, u147, u148, u149, u150, u151, u152, u153, u154, u155, u156, u157, u158, u159, u160, u161, u162, u163, u164, u165, u166, u167, u168, u169, u170, u171, u172, u173, u174, u175, u176, u177, u178, u179, u180, u181, u182, u183, u184, u185, u186, u187, u188, u189, u190, u191, u192, u193, u194, u195, u196], []⟩ w') :
    Code.wp Yba.prog (dtm 9) Q ⟨#[c0, c1, .pointer (some ⟨TB, 0, none⟩), c3, c4, c5, c6, c7, .func (.func 28) #[] #[.pointer (some ⟨TB, 0, none⟩)], c9, c10, c11, c12, c13, c14, c15, c16, c17, c18, c19, c20, c21, c22, c23, c24, c25, c26, c27, c28, c29, c30, c31, c32, c33, c34, c35, c36, c37, c38, c39, c40, c41, c42, c43, c44, c45, c46, c47, c48, c49, c50, c51, c52, c53, c54, c55, c56, c57, c58, c59, c60, c61, c62, c63, c64, c65, c66, c67, c68, c69, c70, c71, c72, c73, c74, c75, c76, c77, c78, c79, c80, c81, c82, c83, c84, c85, c86, c87, c88, c89, c90, c91, c92, c93, c94, c95, c96, c97, c98, c99, c100, c101, c102, c103, c104, c105, c106, c107, c108, c109, c110, c111, c112, .slice qa q.length qc, .int .i64 q.length, .int .i64 0, c116, c117, c118, c119, c120, c121, c122, c123, c124, c125, c126, c127, c128, c129, c130, c131, c132, c133, c134, c135, c136, c137, c138, c139, c140, c141, c142, c143, c144, c145, c146, c147, c148, c149, c150, c151, c152, c153, c154, c155, c156, c157, c158, c159, c160, c161, c162, c163, c164, c165, c166, c167, c168, c169, c170, c171, c172, c173, c174, c175, c176, c177, c178, c179, c180, c181, c182, c183, c184, c185, c186, c187, c188, c189, c190, c191, c192, c193, c194, c195, c196], []⟩ w := by
  have hlen := C.len
  have hc7 : nc ≤ 257 := by have := hnc.out; omega
  have hc1 : 1 ≤ nc := by have := hnc.out; omega
  have hcl : ∀ b, cl b < nc := fun b => by have := C.le b; have := hnc.out; omega
  have hN6 := h.dm.fm.N6
  have hqN : q.length ≤ N := len_of_inj N q hB.nd (fun s hs => (hB.mem s hs).2)
  have hqI : (q.length : Int) ≤ 65537 := by omega
  have hKI : (K : Int) ≤ 1048576 := by omega
  have hcI : (nc : Int) ≤ 257 := by omega
  have hcI1 : (1 : Int) ≤ (nc : Int) := by omega
  have HQQ : Aside _ := hQ
  have HST : Aside _ := hst
  have HLP : Aside _ := hLP
  have HW : Aside _ := hw
  have HQA : Aside _ := hqa
  have HQC : Aside _ := hqc
  have HCL : Aside _ := hcl
  have HBF : Aside _ := hB
  clear hQ hst hLP hw hqa hqc hcl hB
  conv => arg 2; whnf
  go_wp2_with fail
  go_loopw [12, 13, 14, 16, 115] (fun _ _ _ _ x wr => ∃ (i : Nat) (g : Nat → Int), i ≤ q.length ∧ x = .int .i64 i ∧ DX F SB EB N M ks ke st ed sta TB tv base bs cl v (.slice (some ⟨DB, 0, none⟩) K K) nc w0 wr ∧ RowD DB K g wr ∧ RowOK N wd st cl nc g 0 ∧ ∀ (p s : Nat), p < i → q[p]? = some s → RowOK N wd st cl nc g s) (fun _ _ _ _ x _ => 65537 - (intOf x).toNat)
  case atStart => exact ⟨0, g0, by omega, rfl, h, hr, hok, fun p s hp => by omega⟩
  case round =>
    clear h hr hok
    obtain ⟨i, g, hi, rfl, hD, hR, hz, hp⟩ := hrel
    have hI0 : (0 : Int) ≤ (i : Int) := by omega
    by_cases hlt : i < q.length
    · have hI : (i : Int) < (q.length : Int) := by omega
      obtain ⟨rfl, hQ1, hQ2⟩ := HQA.out (by omega)
      obtain ⟨s, hs⟩ : ∃ s, q[i]? = some s := ⟨_, List.getElem?_eq_getElem hlt⟩
      obtain ⟨s0, sN⟩ := HBF.out.mem s (List.mem_of_getElem? hs)
      have cq : wr.cell? ⟨QB, i, none⟩ = some (.int .i32 s) := (World.cell?_of_block (hD.kept.block QB hQ1 hQ2)).trans (HQC.out i s hs)
      obtain ⟨f, hf2, hLP⟩ := HLP.out s s0 sN
      have hfN := hLP.1
      have hfok : RowOK N wd st cl nc g f := by
        by_cases f0 : f = 0
        · rw [f0]; exact hz
        · obtain ⟨p, hp1, hp2⟩ := HBF.out.before T hs (by omega) hfN hLP.2.2.1
          exact hp p f hp1 hp2
      obtain ⟨so, hso⟩ : ∃ so, s * nc = so := ⟨_, rfl⟩
      obtain ⟨fo, hfo⟩ : ∃ fo, f * nc = fo := ⟨_, rfl⟩
      have hso2 : so + nc ≤ K := by
        have := pos_lt (c := nc - 1) sN (show nc - 1 < nc by omega)
        have := hKe.out
        omega
      have hfo2 : fo + nc ≤ K := by
        have := pos_lt (c := nc - 1) hfN (show nc - 1 < nc by omega)
        have := hKe.out
        omega
      have w1 : IntKind.i64.wrap ((s : Int) * (nc : Int)) = (so : Int) := by rw [← hso, IntKind.wrap_i64]; push_cast at hso ⊢; omega
      have w2 : IntKind.i64.wrap ((f : Int) * (nc : Int)) = (fo : Int) := by rw [← hfo, IntKind.wrap_i64]; push_cast at hfo ⊢; omega
      have HSO : Hid (s * nc = so) := hso
      have HFO : Hid (f * nc = fo) := hfo
      have HS : Hid (q[i]? = some s) := hs
      have HP : Aside _ := hp
      have HZ : Aside _ := hz
      have HFOK : Aside _ := hfok
      have bx := hD.dm.bx
      have cD := hD.dm.cD
      have cN := hD.dm.cN
      have cS := hD.dm.fm.cS
      have sI : (s : Int) < (N : Int) := by omega
      have sI0 : (0 : Int) ≤ (s : Int) := by omega
      have ws : IntKind.i64.wrap (s : Int) = (s : Int) := by rw [IntKind.wrap_i64]; omega
      have wf : IntKind.i64.wrap (f : Int) = (f : Int) := by rw [IntKind.wrap_i64]; omega
      have fI0 : (0 : Int) ≤ (f : Int) := by omega
      have n1 : (so : Int) ≤ (K : Int) := by omega
      have n2 : (0 : Int) ≤ (so : Int) := by omega
      obtain ⟨R, hRR⟩ : ∃ R, K - so = R := ⟨_, rfl⟩
      have n3 : (nc : Int) ≤ (R : Int) := by omega
      have n4 : ¬ K = so := by omega
      have n5 : ¬ R = 0 := by omega
      clear hso hfo hs hp hz hfok
      go_wp2_with fail
      go_region_held3 (fun w' => w'.cell? ⟨TB, 0, none⟩ = some (.pointer (some ⟨F, 0, none⟩)) ∧ w'.cell? ⟨F, 259, none⟩ = some (.slice (some ⟨DB, 0, none⟩) K K) ∧ w'.cell? ⟨F, 516, none⟩ = some (.int .i64 nc)) (go_keep) (fail)
      have c2 := hD.dm.fm.cs s 2 sN (by omega)
      rw [hf2] at c2
      obtain ⟨R2, hRR2⟩ : ∃ R2, K - fo = R2 := ⟨_, rfl⟩
      have m1 : (fo : Int) ≤ (K : Int) := by omega
      have m2 : (0 : Int) ≤ (fo : Int) := by omega
      have m3 : (nc : Int) ≤ (R2 : Int) := by omega
      have m4 : ¬ K = fo := by omega
      have m5 : ¬ R2 = 0 := by omega
      have hDc : DX F SB EB N M ks ke st ed sta TB tv base bs cl v (.slice (some ⟨DB, 0, none⟩) K K) nc w0 (wr.drew.drew.setCells DB so (cpL g fo nc)) := ((hD.new (Below.refl _ _).drew).new (Below.refl _ _).drew).keptD (kept_setCells _ _ _ _) hR.1 hDB
      have hRd : RowD DB K g wr.drew.drew := hR
      have hRc := hRd.copy (fo := fo) hso2
      have KS : (wr.drew.drew.setCells DB so (cpL g fo nc)).cell? ⟨TB, 0, none⟩ = some (.pointer (some ⟨F, 0, none⟩)) ∧ (wr.drew.drew.setCells DB so (cpL g fo nc)).cell? ⟨F, 259, none⟩ = some (.slice (some ⟨DB, 0, none⟩) K K) ∧ (wr.drew.drew.setCells DB so (cpL g fo nc)).cell? ⟨F, 516, none⟩ = some (.int .i64 nc) ∧ (wr.drew.drew.setCells DB so (cpL g fo nc)).cell? ⟨SB, s * 5 + 2, none⟩ = some (.int .i32 f) := ⟨hDc.dm.bx, hDc.dm.cD, hDc.dm.cN, (hDc.dm.fm.cs s 2 sN (by omega)).trans (by rw [hf2])⟩
      clear cq hf2
      go_wp2_with fail
      go_region_held3 (fun w' => w'.cell? ⟨TB, 0, none⟩ = some (.pointer (some ⟨F, 0, none⟩)) ∧ w'.cell? ⟨F, 259, none⟩ = some (.slice (some ⟨DB, 0, none⟩) K K) ∧ w'.cell? ⟨F, 516, none⟩ = some (.int .i64 nc) ∧ w'.cell? ⟨SB, s * 5 + 2, none⟩ = some (.int .i32 f)) (first | exact KS | go_keep) (first | (refine step_copyD rfl (.tmp 142) (.tmp 162) rfl DB K so fo nc R R2 g rfl rfl hRd hso2 hfo2 ?_))
      have pI := RowP.init (ed := ed) (e0 := ef s) (so := so) HFOK.out HCL.out HFO.out
      have hcg : ∀ k, ¬ (so ≤ k ∧ k < so + nc) → (fun k => if so ≤ k ∧ k < so + nc then g (fo + (k - so)) else g k) k = g k := fun k hk => if_neg hk
      have pZ := RowOK.other (x := 0) HZ.out HCL.out (show 0 ≠ s by omega) HSO.out hcg
      have pP : ∀ (p x : Nat), p < i → q[p]? = some x → RowOK N wd st cl nc (fun k => if so ≤ k ∧ k < so + nc then g (fo + (k - so)) else g k) x := fun p x hp hx => (HP.out p x hp hx).other HCL.out (fun e => by
        have := HBF.out.nd p i s (by rw [← e]; exact hx) HS.out
        omega) HSO.out hcg
      generalize hgg : (fun k => if so ≤ k ∧ k < so + nc then g (fo + (k - so)) else g k) = g1 at *
      obtain ⟨W, hW⟩ : ∃ W, wr.drew.drew.setCells DB so (cpL g fo nc) = W := ⟨_, rfl⟩
      rw [hW] at hDc hRc
      rw [hW]
      have PP1 : Aside _ := pP
      have PZ1 : Aside _ := pZ
      have PI1 : Aside _ := pI
      clear hW hgg hcg pP pZ pI KS hRd hR hD c2 bx cD cN cS m1 m2 m3 m4 m5 hRR2 HZ HP HFOK
      obtain ⟨e0, e1⟩ := HST.out s s0 sN
      have bx := hDc.dm.bx
      have cE := hDc.dm.fm.cE
      have c0 : W.cell? ⟨SB, s * 5, none⟩ = some (.int .i32 (st s 0)) := hDc.dm.fm.cs s 0 sN (by omega)
      have c1 := hDc.dm.fm.cs s 1 sN (by omega)
      rw [e0] at c0
      rw [e1] at c1
      obtain ⟨le1, le2⟩ := E.le s s0 sN
      have hmc := hDc.dm.fm.mc
      have hM6 := hDc.dm.fm.M6
      have i1 : (0 : Int) ≤ (ef s : Int) := by omega
      have i2 : (ef s : Int) ≤ (et s : Int) := by omega
      have i3 : (et s : Int) ≤ (ke : Int) := by omega
      clear e0 e1 w1 w2
      go_wp2_with fail
      go_region_held3 (fun w' => w'.cell? ⟨TB, 0, none⟩ = some (.pointer (some ⟨F, 0, none⟩)) ∧ w'.cell? ⟨F, 2, none⟩ = some (.slice (some ⟨EB, 0, none⟩) M ke) ∧ w'.cell? ⟨SB, s * 5, none⟩ = some (.int .i32 (ef s)) ∧ w'.cell? ⟨SB, s * 5 + 1, none⟩ = some (.int .i32 (et s))) (go_keep) (fail)
      generalize hA : (if ke = ef s then some (⟨EB, 0, none⟩ : Addr) else some ⟨EB, ef s * 2, none⟩) = A
      have HA : Hid (ef s < et s → A = some ⟨EB, ef s * 2, none⟩) := fun hlt => by rw [← hA, if_neg (by omega)]
      clear hA
      obtain ⟨n, hn⟩ : ∃ n, et s - ef s = n := ⟨_, rfl⟩
      have HN : Hid (et s - ef s = n) := hn
      rw [hn]
      have hnI : (n : Int) ≤ 65536 := by omega
      have hDd := hDc.new (Below.refl _ _).drew
      have hRd : RowD DB K g1 W.drew := hRc
      clear hn c0 c1 bx cE hDc hRc
      go_wp2_with fail
      go_loopw [16, 178] (fun _ x wr => ∃ (k : Nat) (g : Nat → Int), k ≤ n ∧ x = .int .i64 k ∧ DX F SB EB N M ks ke st ed sta TB tv base bs cl v (.slice (some ⟨DB, 0, none⟩) K K) nc w0 wr ∧ RowD DB K g wr ∧ RowOK N wd st cl nc g 0 ∧ (∀ (p s : Nat), p < i → q[p]? = some s → RowOK N wd st cl nc g s) ∧ RowP N wd st cl nc ed (ef s) f so k g) (fun _ x _ => 65536 - (intOf x).toNat)
      case atStart => exact ⟨0, g1, by omega, rfl, hDd, hRd, PZ1.out, PP1.out, PI1.out⟩
      case round =>
        clear hDd hRd PZ1 PP1 PI1
        obtain ⟨k, g2, hkn, rfl, hD, hR, pZ, pP, pI⟩ := hrel
        by_cases hltk : k < n
        · have hkI : (k : Int) < (n : Int) := by omega
          have hk0 : (0 : Int) ≤ (k : Int) := by omega
          have hj : ef s + k < et s := by have := HN.out; omega
          obtain rfl : A = some ⟨EB, ef s * 2, none⟩ := HA.out (by omega)
          obtain ⟨d0, d1⟩ := hD.dm.fm.ce (ef s + k) (by omega)
          have ed0 : wr.cell? ⟨EB, ef s * 2 + k * 2, none⟩ = some (.int .u8 (ed (ef s + k)).1) := by rw [← Nat.add_mul]; exact d0
          have ed1 : wr.cell? ⟨EB, ef s * 2 + k * 2 + 1, none⟩ = some (.int .i32 (ed (ef s + k)).2) := by rw [← Nat.add_mul]; exact d1
          obtain ⟨o1, o2, o3⟩ := E.ok s (ef s + k) s0 sN (by omega) hj
          have hbb := E.b8 (ef s + k) (by omega)
          have hcl0 := HW.out s (ed (ef s + k)).2 (ed (ef s + k)).1 sN o1 o3
          have pI2 := pI.step C hcl0
          obtain ⟨b, hbE⟩ : ∃ b, (ed (ef s + k)).1 = b := ⟨_, rfl⟩
          obtain ⟨t, htE⟩ : ∃ t, (ed (ef s + k)).2 = t := ⟨_, rfl⟩
          rw [hbE] at ed0 hbb hcl0 pI2
          rw [htE] at ed1 o1 pI2
          have hcb := HCL.out b
          have hcbI : (cl b : Int) < (nc : Int) := by omega
          have hcbI0 : (0 : Int) ≤ (cl b : Int) := by omega
          have hbI : (b : Int) < 256 := by omega
          have B1 : Below wr.heap.size wr (wr.alloc (.cells #[.int .u8 b, .int .i32 t] 54)).drew := ((Below.refl _ _).alloc (Nat.le_refl _) _).drew
          have hD1 := hD.new B1
          have hR1 : RowD DB K g2 (wr.alloc (.cells #[.int .u8 b, .int .i32 t] 54)).drew := hR.kept (Kept.of_below B1) (fun x => x)
          have CC := entry_call hD1.dm o1 (by rw [hKe.out]; exact hK) hc7
          have a0 := (alloc_at2 wr (.int .u8 b) (.int .i32 t) 54).1
          have a1 := (alloc_at2 wr (.int .u8 b) (.int .i32 t) 54).2
          have S1 : (wr.alloc (.cells #[.int .u8 b, .int .i32 t] 54)).drew.cell? ⟨TB, 0, none⟩ = some (.pointer (some ⟨F, 0, none⟩)) ∧ (wr.alloc (.cells #[.int .u8 b, .int .i32 t] 54)).drew.cell? ⟨F, 260 + b, none⟩ = some (.int .u16 (cl b)) ∧ (wr.alloc (.cells #[.int .u8 b, .int .i32 t] 54)).drew.cell? ⟨wr.heap.size, 0, none⟩ = some (.int .u8 b) ∧ (wr.alloc (.cells #[.int .u8 b, .int .i32 t] 54)).drew.cell? ⟨wr.heap.size, 1, none⟩ = some (.int .i32 t) := ⟨hD1.dm.bx, hD1.dm.cC b hbb, a0, a1⟩
          have hDn : wr.heap.size ≠ DB := Nat.ne_of_gt (tyOf_lt hR.1)
          have hD2 := fun x : Value => hD1.other (o := so + cl b) (x := x) hR1.1 hDB
          have S2 : ∀ x, ((wr.alloc (.cells #[.int .u8 b, .int .i32 t] 54)).drew.setCell ⟨DB, so + cl b, none⟩ x).cell? ⟨TB, 0, none⟩ = some (.pointer (some ⟨F, 0, none⟩)) ∧ ((wr.alloc (.cells #[.int .u8 b, .int .i32 t] 54)).drew.setCell ⟨DB, so + cl b, none⟩ x).cell? ⟨F, 260 + b, none⟩ = some (.int .u16 (cl b)) ∧ ((wr.alloc (.cells #[.int .u8 b, .int .i32 t] 54)).drew.setCell ⟨DB, so + cl b, none⟩ x).cell? ⟨wr.heap.size, 0, none⟩ = some (.int .u8 b) ∧ ((wr.alloc (.cells #[.int .u8 b, .int .i32 t] 54)).drew.setCell ⟨DB, so + cl b, none⟩ x).cell? ⟨wr.heap.size, 1, none⟩ = some (.int .i32 t) := fun x => ⟨(hD2 x).dm.bx, (hD2 x).dm.cC b hbb, (set_cell_ne hDn).trans a0, (set_cell_ne hDn).trans a1⟩
          have cr := hR1.2 (so + cl b) (by omega)
          have fz := tyOf_frozen hR1.1
          have hR2 := hR1.set (so + cl b) (ent st nc t)
          have hfin := hD2 (.int .i32 (ent st nc t))
          have hgo : ∀ x, ¬ (so ≤ x ∧ x < so + nc) → (fun x => if x = so + cl b then ent st nc t else g2 x) x = g2 x := fun x hx => if_neg (by omega)
          have pZ2 := pZ.other HCL.out (show 0 ≠ s by omega) HSO.out hgo
          have pP2 : ∀ (p x : Nat), p < i → q[p]? = some x → RowOK N wd st cl nc (fun x => if x = so + cl b then ent st nc t else g2 x) x := fun p x hp hx => (pP p x hp hx).other HCL.out (fun e => by
            have := HBF.out.nd p i s (by rw [← e]; exact hx) HS.out
            omega) HSO.out hgo
          generalize hgg : (fun x => if x = so + cl b then ent st nc t else g2 x) = g3 at *
          have PP1 : Aside _ := pP2
          have PZ1 : Aside _ := pZ2
          have PI1 : Aside _ := pI2
          generalize hEE : ent st nc t = EE at *
          clear hgg hEE hgo pP pZ pI pP2 pZ2 pI2 hbE htE d0 d1 o3 hD2 hD hR hcl0 B1
          go_wp2_with fail
          go_region_held3 (fun w' => w'.cell? ⟨TB, 0, none⟩ = some (.pointer (some ⟨F, 0, none⟩)) ∧ w'.cell? ⟨F, 260 + b, none⟩ = some (.int .u16 (cl b)) ∧ w'.cell? ⟨wr.heap.size, 0, none⟩ = some (.int .u8 b) ∧ w'.cell? ⟨wr.heap.size, 1, none⟩ = some (.int .i32 t))
            (first | exact S2 _ | exact S1 | go_keep) (first | (go_at_call 28; refine CC.mono ?_; rintro e w1 ⟨rfl, rfl⟩))
          clear S1 S2 CC
          go_wp2_with fail
          go_roundw
          case rel => exact ⟨k + 1, g3, by omega, by go_num, hfin, hR2, PZ1.out, PP1.out, PI1.out⟩
          case measure => simp [intOf]; omega
        · have hkI : (n : Int) ≤ (k : Int) := by omega
          have hok : RowOK N wd st cl nc g2 s := by
            have e : k = et s - ef s := by have := HN.out; omega
            rw [e] at pI
            exact RowP.done T E s0 sN hLP pI HSO.out
          have hP2 : ∀ (p x : Nat), p < i + 1 → q[p]? = some x → RowOK N wd st cl nc g2 x := fun p x hp hx => by
            by_cases e : p = i
            · rw [e, HS.out] at hx
              rw [← Option.some.inj hx]; exact hok
            · exact pP p x (by omega) hx
          have PP1 : Aside _ := hP2
          have PZ1 : Aside _ := pZ
          clear hP2 pP pZ pI hok
          go_wp2_with fail
          go_roundw
          case rel => exact ⟨i + 1, g2, by omega, by go_num, hD, hR, PZ1.out, PP1.out⟩
          case measure => simp [intOf]; omega
    · have hI : (q.length : Int) ≤ (i : Int) := by omega
      have fin : ∀ s, s < N → RowOK N wd st cl nc g s := fun s sN => by
        by_cases c : s = 0
        · rw [c]; exact hz
        · obtain ⟨p, hp2⟩ := List.mem_iff_getElem?.1 (HBF.out.all T _ s (Nat.le_refl _) (by omega) sN)
          exact hp p s (by have := (List.getElem?_eq_some_iff.1 hp2).1; omega) hp2
      have HF : Aside _ := fin
      clear fin hp hz
      go_wp2_with fail
      have hQ := HQQ.out
      exact hQ _ _ _ _ _ _ _ _ _ _ _ _ _ _ _ _ _ _ _ _ _ _ _ _ _ _ _ _ _ _ _ _ _ _ _ _ _ _ _ _ _ _ _ _ _ _ _ _ _ _ _ _ _ _ _ _ _ _ _ _ _ _ _ _ _ _ _ _ _ _ _ _ _ _ _ _ _ _ _ _ _ _ _ _ _ _ g wr hD hR HF.out
end Go.Proofs.Ybulkckss
