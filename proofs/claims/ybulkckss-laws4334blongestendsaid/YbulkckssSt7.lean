import Derived.Test.YbulkckssSt6
namespace Go.Proofs.Ybulkckss
open Go.RowKit Go.Lib

/-- the states that k edges lead to -/
def kid (ed : Nat → Nat × Nat) (e0 k : Nat) : List Nat := (List.range k).map fun j => (ed (e0 + j)).2
theorem kid_succ (ed : Nat → Nat × Nat) (e0 k : Nat) : kid ed e0 (k + 1) = kid ed e0 k ++ [(ed (e0 + k)).2] := by simp [kid, List.range_succ]
theorem kid_len (ed : Nat → Nat × Nat) (e0 k : Nat) : (kid ed e0 k).length = k := by simp [kid]
theorem kid_get {ed : Nat → Nat × Nat} {e0 k j s : Nat} (h : (kid ed e0 k)[j]? = some s) : j < k ∧ (ed (e0 + j)).2 = s := by
  have hl := (List.getElem?_eq_some_iff.1 h).1
  rw [kid_len] at hl
  refine ⟨hl, ?_⟩
  simpa [kid, List.getElem?_range hl] using h
theorem kid_mem {ed : Nat → Nat × Nat} {e0 k s : Nat} : s ∈ kid ed e0 k ↔ ∃ j, j < k ∧ (ed (e0 + j)).2 = s := by simp [kid]
theorem Bfs.kids_of {N M i s : Nat} {wd : Nat → List Nat} {ef et sta : Nat → Nat} {ed : Nat → Nat × Nat} {q : List Nat} (T : Trie N wd) (E : FE N M wd ef et ed sta) (h : Bfs N wd q i) (hx : q[i]? = some s) : Bfs N wd (q ++ kid ed (ef s) (et s - ef s)) (i + 1) := by
  obtain ⟨s0, sN⟩ := h.mem s (List.mem_of_getElem? hx)
  refine h.step T hx (fun p p' x hp hp' => ?_) (fun t ht => ?_) (fun t b tN e => ?_)
  · obtain ⟨a1, a2⟩ := kid_get hp
    obtain ⟨b1, b2⟩ := kid_get hp'
    have := E.one s (ef s + p) (ef s + p') s0 sN (by omega) (by omega) (by omega) (by omega) (a2.trans b2.symm)
    omega
  · obtain ⟨j, hj, rfl⟩ := kid_mem.1 ht
    obtain ⟨o1, o2, o3⟩ := E.ok s (ef s + j) s0 sN (by omega) (by omega)
    exact ⟨o2, o1, _, o3⟩
  · obtain ⟨j, j1, j2, ej⟩ := E.all s t b s0 sN tN e
    exact kid_mem.2 ⟨j - ef s, by omega, by rw [show ef s + (j - ef s) = j from by omega, ej]⟩
theorem qslice {w : World} {base e n : Nat} {v : Value} {xs : List Value} (h : w.ownsRow base e 1 v n xs) : ∃ ad cp, v = .slice ad n cp := by
  rcases h.2 with ⟨rfl, rfl⟩ | ⟨g, cap, cur, rfl, _⟩
  · exact ⟨_, _, rfl⟩
  · exact ⟨_, _, rfl⟩
theorem alloc_at (w : World) (a b : Value) (t : TypeId) : (w.alloc (.cells #[a, b] t)).cell? ⟨w.heap.size, 0, none⟩ = some a ∧ (w.alloc (.cells #[a, b] t)).cell? ⟨w.heap.size, 1, none⟩ = some b := by
  have e2 : (w.alloc (.cells #[a, b] t)).heap[w.heap.size]? = some (.cells #[a, b] t) := (MapKept.heap_alloc w _).1
  constructor <;> (simp only [World.cell?, e2]; rfl)
theorem alloc_ty (w : World) (cs : Array Value) (t : TypeId) : tyOf (w.alloc (.cells cs t)) w.heap.size = some t := tyOf_of (MapKept.heap_alloc w _).1

set_option maxHeartbeats 4000000 in
set_option maxRecDepth 100000 in
/-- the breadth first loop -/
theorem stm16 (F SB EB N M ks ke : Nat) (st0 : Nat → Nat → Int) (ed : Nat → Nat × Nat) (sta ef et : Nat → Nat) (wd : Nat → List Nat) (q0 : List Nat) (v0 : Value) (w0 w : World) (T : Trie N wd) (E : FE N M wd ef et ed sta) (hst : ∀ s, 0 < s → s < N → st0 s 0 = ef s ∧ st0 s 1 = et s) (h : LK F SB EB N M ks ke st0 ed sta wd (fun s => s ∈ q0) q0 v0 w0 w) (hB0 : Bfs N wd q0 0) (Q : Exit → Act → World → Prop) (c0 c1 c2 c3 c4 c5 c6 c7 c8 c10 c11 c12 c13 c14 c15 c16 c17 c18 c19 c20 c21 c23 c24 c25 c26 c27 c28 c29 c30 c31 c32 c33 c34 c35 c36 c37 c38 c39 c40 c41 c42 c43 c44 c45 c46 c47 c48 c49 c50 c51 c52 c53 c54 c55 c56 c57 c58 c59 c60 c61 c62 c63 c64 c65 c66 c67 c68 c69 c70 c71 c72 c73 c74 c75 c76 c77 c78 c79 c80 c81 c82 c83 c84 c85 c86 c87 c88 c89 c90 c91 c92 c93 c94 c95 c96 c97 c98 c99 c100 c101 c102 c103 c104 c105 c106 c107 c108 c109 c110 c111 c112 c113 c114 c115 c116 c117 c118 c119 c120 c121 c122 c123 c124 c125 c126 c127 c128 c129 c130 c131 c132 c133 c134 c135 c136 c137 c138 c139 c140 c141 c142 c143 c144 c145 c146 c147 c148 c149 c150 c151 c152 c153 c154 c155 c156 c157 c158 c159 c160 c161 c162 c163 c164 c165 c166 c167 c168 c169 c170 c171 c172 c173 c174 c175 c176 c177 c178 c179 c180 c181 c182 c183 c184 c185 c186 c187 c188 c189 c190 c191 c192 c193 c194 c195 c196 c197 c198 c199 c200 c201 c202 c203 c204 c205 c206 c207 c208 c209 c210 c211 c212 c213 c214 c215 c216 c217 c218 c219 c220 c221 c222 c223 c224 c225 c226 c227 c228 c229 c230 c231 c232 c233 c234 c235 c236 c237 c238 c239 c240 c241 c242 c243 c244 c245 c246 c247 c248 c249 c250 c251 c252 c253 c254 c255 c256 c257 c258 c259 c260 c261 c262 c263 c264 : Value)
    (hQ : ∀ (u25 u26 u28 u214 u215 u216 u217 u218 u219 u220 u221 u222 u223 u224 u225 u226 u227 u228 u229 u230 u231 u232 u233 u234 u235 u236 u237 u238 u239 u240 u241 u242 u243 u244 u245 u246 u247 u248 u249 u250 u251 u252 u253 u254 u255 u256 u257 u258 u259 u260 u261 : Value) (v' : Value) (q : List Nat) (w' : World), LK F SB EB N M ks ke st0 ed sta wd (fun s => s ∈ q) q v' w0 w' → Bfs N wd q q.length → Q .normal ⟨#[c0, c1, c2, c3, c4, c5, c6, c7, c8, .pointer (some ⟨F, 0, none⟩), c10, c11, c12, c13, c14, c15, c16, c17, c18, c19, c20, c21, v', c23, c24, u25, u26, c27, u28, c29, c30, c31, c32, c33, c34, c35, c36, c37, c38, c39, c40, c41, c42, c43, c44, c45, c46, c47, c48, c49, c50, c51, c52, c53, c54, c55, c56, c57, c58, c59, c60, c61, c62, c63, c64, c65, c66, c67, c68, c69, c70, c71, c72, c73, c74, c75, c76, c77, c78, c79, c80, c81, c82, c83, c84, c85, c86, c87, c88, c89, c90, c91, c92, c93, c94, c95, c96, c97, c98, c99, c100, c101, c102, c103, c104, c105, c106, c107, c108, c109, c110, c111, c112, c113, c114, c115, c116, c117, c118, c119, c120, c121, c122, c123, c124, c125, c126, c127, c128, c129, c130, c131, c132, c133, c134, c135, c136, c137, c138, c139, c140, c141, c142, c143, c144, c145, c146, c147, c148, c149, c150, c151, c152, c153, c154, c155, c156, c157, c158, c159, c160, c161, c162, c163, c164, c165, c166, c167, c168, c169, c170, c171, c172, c173, c174, c175, c176, c177, c178, c179, c180, c181, c182, c183, c184, c185, c186, c187, c188, c189, c190, c191, c192, c193, c194, c195, c196, c197, c198, c199, c200, c201, c202, c203, c204, c205, c206, c207, c208, c209, c210, c211, c212, c213, u214, u215, u216, u217, u218, u219, u220, u221, u222, u223, u224, u225, u226, u227, u228, u229, u230, u231, u232, u233, u234, u235, u236, u237, u238, u239, u240, u241, u242, u243, u244, u245, u246, u247, u248, u249, u250, u251, u252, u253, u254, u255, u256, u257, u258, u259, u260, u261, c262, c263, c264], []⟩ w') :
    Code.wp Yba.prog (stm 16) Q ⟨#[c0, c1, c2, c3, c4, c5, c6, c7, c8, .pointer (some ⟨F, 0, none⟩), c10, c11, c12, c13, c14, c15, c16, c17, c18, c19, c20, c21, v0, c23, c24, c25, c26, c27, c28, c29, c30, c31, c32, c33, c34, c35, c36, c37, c38, c39, c40, c41, c42, c43, c44, c45, c46, c47, c48, c49, c50, c51, c52, c53, c54, c55, c56, c57, c58, c59, c60, c61, c62, c63, c64, c65, c66, c67, c68, c69, c70, c71, c72, c73, c74, c75, c76, c77, c78, c79, c80, c81, c82, c83, c84, c85, c86, c87, c88, c89, c90, c91, c92, c93, c94, c95, c96, c97, c98, c99, c100, c101, c102, c103, c104, c105, c106, c107, c108, c109, c110, c111, c112, c113, c114, c115, c116, c117, c118, c119, c120, c121, c122, c123, c124, c125, c126, c127, c128, c129, c130, c131, c132, c133, c134, c135, c136, c137, c138, c139, c140, c141, c142, c143, c144, c145, c146, c147, c148, c149, c150, c151, c152, c153, c154, c155, c156, c157, c158, c159, c160, c161, c162, c163, c164, c165, c166, c167, c168, c169, c170, c171, c172, c173, c174, c175, c176, c177, c178, c179, c180, c181, c182, c183, c184, c185, c186, c187, c188, c189, c190, c191, c192, c193, c194, c195, c196, c197, c198, c199, c200, c201, c202, c203, c204, c205, c206, c207, c208, c209, c210, c211, c212, c213, c214, c215, c216, c217, c218, c219, c220, c221, c222, c223, c224, c225, c226, c227, c228, c229, c230, c231, c232, c233, c234, c235, c236, c237, c238, c239, c240, c241, c242, c243, c244, c245, c246, c247, c248, c249, c250, c251, c252, c253, c254, c255, c256, c257, c258, c259, c260, c261, c262, c263, c264], []⟩ w := by
  obtain ⟨i21, x0, x1, x2, x3⟩ := info_parts Yba.info21
  have HQQ : Aside _ := hQ
  have HST : Aside _ := hst
  clear hQ hst
  conv => arg 2; whnf
  go_wp2_with fail
  go_loopw [22, 25] (fun v x wr => ∃ (i : Nat) (q : List Nat), i ≤ q.length ∧ x = .int .i64 i ∧ LK F SB EB N M ks ke st0 ed sta wd (fun s => s ∈ q) q v w0 wr ∧ Bfs N wd q i) (fun _ x _ => 65538 - (intOf x).toNat)
  case atStart => exact ⟨0, q0, by omega, rfl, h, hB0⟩
  case round =>
    clear h hB0
    obtain ⟨i, q, hi, rfl, hL, hB⟩ := hrel
    have hN6 : N ≤ 65537 := by obtain ⟨⟨st, fm, _, _⟩, _, _⟩ := id hL; exact fm.N6
    have hql : q.length ≤ N := nodup_len N q (ND.nodup hB.nd) (fun s hs => (hB.mem s hs).2)
    have hqI : (q.length : Int) ≤ 65537 := by omega
    have hI0 : (0 : Int) ≤ (i : Int) := by omega
    by_cases hlt : i < q.length
    · have hI : (i : Int) < (q.length : Int) := by omega
      obtain ⟨s, hs⟩ : ∃ s, q[i]? = some s := ⟨_, List.getElem?_eq_getElem hlt⟩
      obtain ⟨gq, cp, hv, _, _, _, _, hcell⟩ := row_at hL.row (by omega)
      subst hv
      have cq : wr.cell? ⟨gq, i, none⟩ = some (.int .i32 s) := (hcell i hlt).trans (iL_get hs)
      obtain ⟨s0, sN⟩ := hB.mem s (List.mem_of_getElem? hs)
      obtain ⟨⟨st, fm, h1, h2⟩, hr, hk⟩ := id hL
      obtain ⟨e0, e1⟩ := HST.out s s0 sN
      have cS := fm.cS
      have cE := fm.cE
      have c0 : wr.cell? ⟨SB, s * 5, none⟩ = some (.int .i32 (st s 0)) := fm.cs s 0 sN (by omega)
      have c1 := fm.cs s 1 sN (by omega)
      rw [h1 s 0 (by omega), e0] at c0
      rw [h1 s 1 (by omega), e1] at c1
      obtain ⟨le1, le2⟩ := E.le s s0 sN
      have hmc := fm.mc
      have hM6 := fm.M6
      have i1 : (0 : Int) ≤ (ef s : Int) := by omega
      have i2 : (ef s : Int) ≤ (et s : Int) := by omega
      have i3 : (et s : Int) ≤ (ke : Int) := by omega
      have sI : (s : Int) < (N : Int) := by omega
      have sI0 : (0 : Int) ≤ (s : Int) := by omega
      have HS : Hid (q[i]? = some s) := hs
      have HBS : Aside _ := hB
      clear e0 e1 h1 h2 hr hk fm hcell hs
      go_wp2_with fail
      go_region_held3 (fun w' => w'.cell? ⟨F, 2, none⟩ = some (.slice (some ⟨EB, 0, none⟩) M ke) ∧ w'.cell? ⟨F, 1, none⟩ = some (.slice (some ⟨SB, 0, none⟩) N ks) ∧ w'.cell? ⟨SB, s * 5, none⟩ = some (.int .i32 (ef s)) ∧ w'.cell? ⟨SB, s * 5 + 1, none⟩ = some (.int .i32 (et s))) (go_keep) (fail)
      generalize hA : (if ke = ef s then some (⟨EB, 0, none⟩ : Addr) else some ⟨EB, ef s * 2, none⟩) = A
      have HA : Hid (ef s < et s → A = some ⟨EB, ef s * 2, none⟩) := fun hlt => by rw [← hA, if_neg (by omega)]
      clear hA
      obtain ⟨n, hn⟩ : ∃ n, et s - ef s = n := ⟨_, rfl⟩
      have HN : Hid (et s - ef s = n) := hn
      rw [hn]
      have hnI : (n : Int) ≤ 65536 := by omega
      have hLd := hL.new (Below.refl _ _).drew
      clear hn c0 c1 cS cE cq hL
      go_wp2_with fail
      go_loopw [22, 28, 240] (fun v _ x wr => ∃ k : Nat, k ≤ n ∧ x = .int .i64 k ∧ LK F SB EB N M ks ke st0 ed sta wd (fun t => t ∈ q ++ kid ed (ef s) k) (q ++ kid ed (ef s) k) v w0 wr) (fun _ _ x _ => 65538 - (intOf x).toNat)
      case atStart =>
        refine ⟨0, by omega, rfl, ?_⟩
        rw [show kid ed (ef s) 0 = [] from rfl, List.append_nil]
        exact hLd
      case round =>
        clear hLd
        obtain ⟨k, hkn, rfl, hL⟩ := hrel
        by_cases hltk : k < n
        · have hkI : (k : Int) < (n : Int) := by omega
          have hk0 : (0 : Int) ≤ (k : Int) := by omega
          have hj : ef s + k < et s := by have := HN.out; omega
          obtain rfl : A = some ⟨EB, ef s * 2, none⟩ := HA.out (by omega)
          obtain ⟨⟨st, fm, h1, h2⟩, hr, hk⟩ := id hL
          obtain ⟨d0, d1⟩ := fm.ce (ef s + k) (by omega)
          have ed0 : wr.cell? ⟨EB, ef s * 2 + k * 2, none⟩ = some (.int .u8 (ed (ef s + k)).1) := by rw [← Nat.add_mul]; exact d0
          have ed1 : wr.cell? ⟨EB, ef s * 2 + k * 2 + 1, none⟩ = some (.int .i32 (ed (ef s + k)).2) := by rw [← Nat.add_mul]; exact d1
          obtain ⟨o1, o2, o3⟩ := E.ok s (ef s + k) s0 sN (by omega) hj
          have hbb := E.b8 (ef s + k) (by omega)
          have hks := kid_succ ed (ef s) k
          obtain ⟨b, hbE⟩ : ∃ b, (ed (ef s + k)).1 = b := ⟨_, rfl⟩
          obtain ⟨t, htE⟩ : ∃ t, (ed (ef s + k)).2 = t := ⟨_, rfl⟩
          rw [hbE] at ed0 o3 hbb
          rw [htE] at ed1 o1 o2 o3 hks
          clear hbE htE d0 d1
          have HKS : Hid (kid ed (ef s) (k + 1) = kid ed (ef s) k ++ [t]) := hks
          obtain ⟨f, hf2, hLP⟩ := h2 s (List.mem_append.2 (.inl (List.mem_of_getElem? HS.out)))
          have B1 : ∀ o, Below wr.heap.size wr (wr.alloc o).drew := fun o => ((Below.refl _ _).alloc (Nat.le_refl _) o).drew
          have hL1 : LK F SB EB N M ks ke st0 ed sta wd (fun t => t ∈ q ++ kid ed (ef s) k) (q ++ kid ed (ef s) k) u22 w0 (wr.alloc (.cells #[.int .u8 b, .int .i32 t] 54)).drew := hL.new (B1 _)
          have fm1 := fm.new (B1 (.cells #[.int .u8 b, .int .i32 t] 54))
          have C1 := next_call T E fm1 (fun x x0 xN => ⟨(h1 x 0 (by omega)).trans (HST.out x x0 xN).1, (h1 x 1 (by omega)).trans (HST.out x x0 xN).2⟩) (s0 := f) (b := b) hLP.1 hbb (fun x x0 xN hx => by
            have hl2 := hLP.2.2.1
            obtain ⟨p, hp, hq⟩ := HBS.out.shallow T HS.out _ x (Nat.le_refl _) x0 xN (by omega)
            exact h2 x (List.mem_append.2 (.inl (List.mem_of_getElem? hq))))
          have a0 := (alloc_at wr (.int .u8 b) (.int .i32 t) 54).1
          have a1 := (alloc_at wr (.int .u8 b) (.int .i32 t) 54).2
          have cS : (wr.alloc (.cells #[.int .u8 b, .int .i32 t] 54)).drew.cell? ⟨F, 1, none⟩ = some (.slice (some ⟨SB, 0, none⟩) N ks) := fm1.cS
          have c2 : (wr.alloc (.cells #[.int .u8 b, .int .i32 t] 54)).drew.cell? ⟨SB, s * 5 + 2, none⟩ = some (.int .i32 f) := (fm1.cs s 2 sN (by omega)).trans (by rw [hf2])
          have S0 : (wr.alloc (.cells #[.int .u8 b, .int .i32 t] 54)).drew.cell? ⟨F, 1, none⟩ = some (.slice (some ⟨SB, 0, none⟩) N ks) ∧ (wr.alloc (.cells #[.int .u8 b, .int .i32 t] 54)).drew.cell? ⟨SB, s * 5 + 2, none⟩ = some (.int .i32 f) ∧ (wr.alloc (.cells #[.int .u8 b, .int .i32 t] 54)).drew.cell? ⟨wr.heap.size, 0, none⟩ = some (.int .u8 b) ∧ (wr.alloc (.cells #[.int .u8 b, .int .i32 t] 54)).drew.cell? ⟨wr.heap.size, 1, none⟩ = some (.int .i32 t) := ⟨cS, c2, a0, a1⟩
          have tW : tyOf (wr.alloc (.cells #[.int .u8 b, .int .i32 t] 54)).drew wr.heap.size = some 54 := alloc_ty wr _ 54
          have hts : ¬ t = s := fun e => by
            rw [e] at o3
            have := congrArg List.length o3
            simp at this
          have hqk : (q ++ kid ed (ef s) k).length ≤ 131073 := by rw [List.length_append, kid_len]; omega
          have hszW : w0.heap.size ≤ wr.heap.size := hL.kept.size
          have H1 : Aside _ := h1
          have H2 : Aside _ := h2
          have HLP : Aside _ := hLP
          have HO3 : Hid (wd t = wd s ++ [b]) := o3
          clear h1 h2 hf2 hr hk hks o3 hLP cS c2 B1 hL fm
          go_wp2_with fail
          go_region_held3 (fun w' => w'.cell? ⟨F, 1, none⟩ = some (.slice (some ⟨SB, 0, none⟩) N ks) ∧ w'.cell? ⟨SB, s * 5 + 2, none⟩ = some (.int .i32 f) ∧ w'.cell? ⟨wr.heap.size, 0, none⟩ = some (.int .u8 b) ∧ w'.cell? ⟨wr.heap.size, 1, none⟩ = some (.int .i32 t))
            (first | exact S2 | exact S1 | exact S0 | go_keep)
            (first
              | (go_at_call 11; refine C1.mono ?_; rintro e w1 ⟨r, rfl, hls, hbel⟩
                 have fm2 := fm1.new hbel
                 have hL2 := hL1.new hbel
                 have S1 : w1.cell? ⟨F, 1, none⟩ = some (.slice (some ⟨SB, 0, none⟩) N ks) ∧ w1.cell? ⟨SB, s * 5 + 2, none⟩ = some (.int .i32 f) ∧ w1.cell? ⟨wr.heap.size, 0, none⟩ = some (.int .u8 b) ∧ w1.cell? ⟨wr.heap.size, 1, none⟩ = some (.int .i32 t) := ⟨fm2.cS, (hbel.cell (tyOf_lt fm1.tS)).trans S0.2.1, (hbel.cell (tyOf_lt tW)).trans S0.2.2.1, (hbel.cell (tyOf_lt tW)).trans S0.2.2.2⟩
                 have tW1 : tyOf w1 wr.heap.size = some 54 := (tyOf_congr (hbel.block _ (tyOf_lt tW))).trans tW
                 have C2 := link_call fm2 o1 hls.1)
              | (go_at_call 21; refine C2.mono ?_; rintro e w2 ⟨rfl, hl⟩
                 obtain ⟨st2, fm3, f1, f2, kk⟩ := id hl.out
                 have eW := kk.block wr.heap.size (tyOf_lt tW1) (fun e => tyOf_ne tW1 fm2.tS (by decide) e)
                 have S2 : w2.cell? ⟨F, 1, none⟩ = some (.slice (some ⟨SB, 0, none⟩) N ks) ∧ w2.cell? ⟨SB, s * 5 + 2, none⟩ = some (.int .i32 f) ∧ w2.cell? ⟨wr.heap.size, 0, none⟩ = some (.int .u8 b) ∧ w2.cell? ⟨wr.heap.size, 1, none⟩ = some (.int .i32 t) := ⟨fm3.cS, (fm3.cs s 2 sN (by omega)).trans (by rw [f2 s 2 (fun x => hts x.1.symm)]; exact (fm2.cs s 2 sN (by omega)).symm.trans S1.2.1), (World.cell?_of_block eW).trans S1.2.2.1, (World.cell?_of_block eW).trans S1.2.2.2⟩
                 have L1 := hL2.link o2 H1.out H2.out fm2.tS hl (LP.child T HO3.out HLP.out hls)))
          have cW := S2.2.2.2
          have sz2 := L1.kept.size
          clear C1 C2 S0 S1 S2 fm1 fm2 fm3 hL1 hL2 f1 f2 kk eW tW tW1 a0 a1 hl hls hbel
          go_wp2_with (at_builtin; refine wpList_append2 rfl (.tmp 256) (.tmp 259) 33 rfl w0.heap.size 21 i21 (.int .i32 0) 1 4 Yba.underlying33 x0 x1 x2 x3 rfl (by decide) _ (q ++ kid ed (ef s) k).length (iL (q ++ kid ed (ef s) k)) rfl (L1.row.alloc _) ⟨w2.heap.size, 0, none⟩ 1 1 [.int .i32 t] rfl rfl ?c1 ?c2 ?c3 ?c4 ?c5 (by decide) ?_)
          case c1 => exact fun j x hj => new_cells1 w2 _ 21 j x hj
          case c2 =>
            intro x hx
            rw [List.mem_singleton] at hx
            subst hx; rfl
          case c3 => unfold maxLen; omega
          case c4 => omega
          case c5 => simp; omega
          intro g' cap' wa ho' hg' _
          have ka : Kept (fun j => u22.ownBlock = some j) w2 wa := ⟨hg'.os, hg'.tape, hg'.output, Nat.le_trans (by simp) hg'.size, fun j hj hS => (hg'.block j (by simp; omega) (fun e => hS e.symm)).trans (Below.heap_alloc _ _ j hj)⟩
          have L2 := L1.push (v' := .slice (some ⟨g', 0, none⟩) (q.length + (kid ed (ef s) k).length + 1) cap') (t := t) ka (by rw [List.length_append]; exact ho')
          have L3 : LK F SB EB N M ks ke st0 ed sta wd (fun x => x ∈ q ++ kid ed (ef s) (k + 1)) (q ++ kid ed (ef s) (k + 1)) (.slice (some ⟨g', 0, none⟩) (q.length + (kid ed (ef s) k).length + 1) cap') w0 wa := by
            rw [HKS.out, ← List.append_assoc]
            obtain ⟨⟨st, f, h1, h2⟩, hr, hk⟩ := L2
            exact ⟨⟨st, f, h1, fun s hs => h2 s (by rw [List.mem_append, List.mem_singleton] at hs; exact hs)⟩, hr, hk⟩
          clear L1 L2 ka ho' hg' cW
          go_wp2_with fail
          go_roundw
          case rel => exact ⟨k + 1, by omega, by go_num, L3⟩
          case measure => simp [intOf]; omega
        · have e : k = n := by omega
          subst e
          have hB2 : Bfs N wd (q ++ kid ed (ef s) k) (i + 1) := by
            rw [← HN.out]
            exact HBS.out.kids_of T E HS.out
          have hl2 : i + 1 ≤ (q ++ kid ed (ef s) k).length := by rw [List.length_append]; omega
          go_wp2_with fail
          go_roundw
          case rel => exact ⟨i + 1, q ++ kid ed (ef s) k, hl2, by go_num, hL, hB2⟩
          case measure => simp [intOf]; omega
    · have e : i = q.length := by omega
      obtain ⟨ad, cp, hv⟩ := qslice hL.row
      subst hv
      have hbb : Bfs N wd q q.length := by rw [e] at hB; exact hB
      have hIF : ((i : Int) < (q.length : Int)) = False := eq_false (by omega)
      clear e hB
      go_wp2_with fail
      have hQ := HQQ.out
      exact hQ _ _ _ _ _ _ _ _ _ _ _ _ _ _ _ _ _ _ _ _ _ _ _ _ _ _ _ _ _ _ _ _ _ _ _ _ _ _ _ _ _ _ _ _ _ _ _ _ _ _ _ _ q wr hL hbb
end Go.Proofs.Ybulkckss
