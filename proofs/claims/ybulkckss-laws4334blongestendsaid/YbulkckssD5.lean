import Derived.Test.YbulkckssD4
namespace Go.Proofs.Ybulkckss
open Go.RowKit

/-- what makeDense leaves -/
structure DOut (F SB EB N M ks ke : Nat) (st : Nat → Nat → Int) (ed : Nat → Nat × Nat) (sta : Nat → Nat) (wd : Nat → List Nat) (cl : Nat → Nat) (nc : Nat) (vD : Value) (w0 w : World) : Prop where
  fm : FM F SB EB N M ks ke st ed sta w
  cD : w.cell? ⟨F, 259, none⟩ = some vD
  cC : ∀ b, b < 256 → w.cell? ⟨F, 260 + b, none⟩ = some (.int .u16 (cl b))
  cN : w.cell? ⟨F, 516, none⟩ = some (.int .i64 nc)
  c0 : ∃ a n c, w.cell? ⟨F, 0, none⟩ = some (.slice a n c)
  lcl : ∀ b, cl b < nc
  lnc : nc ≤ 257
  dn : vD = .slice none 0 0 ∨ ∃ DB g, vD = .slice (some ⟨DB, 0, none⟩) (N * nc) (N * nc) ∧ N * nc ≤ 1048576 ∧ w0.heap.size ≤ DB ∧ RowD DB (N * nc) g w ∧ ∀ s, s < N → RowOK N wd st cl nc g s
  kept : Kept (fun k => k = F) w0 w

set_option maxHeartbeats 4000000 in
set_option maxRecDepth 100000 in
theorem makeDense_call {F SB EB N M ks ke : Nat} {st : Nat → Nat → Int} {ed : Nat → Nat × Nat} {sta ef et : Nat → Nat} {wd : Nat → List Nat} {ad qa : Option Addr} {XB n cap QB qc : Nat} {tx : Nat → ByteArray} {q : List Nat} {w : World}
    (T : Trie N wd) (E : FE N M wd ef et ed sta) (hst : ∀ s, 0 < s → s < N → st s 0 = ef s ∧ st s 1 = et s) (hLP : ∀ s, 0 < s → s < N → ∃ f : Nat, st s 2 = f ∧ LP N wd (wd s) f) (hs0 : st 0 4 < 0) (hB : Bfs N wd q q.length)
    (hw : ∀ s t b, s < N → t < N → wd t = wd s ++ [b] → ∃ j, j < n ∧ ∃ k, ∃ hk : k < (tx j).size, (tx j)[k].toNat = b)
    (hqa : 0 < q.length → qa = some ⟨QB, 0, none⟩ ∧ QB < w.heap.size ∧ QB ≠ F) (hqc : ∀ (i s : Nat), q[i]? = some s → w.cell? ⟨QB, i, none⟩ = some (.int .i32 s))
    (fm : FM F SB EB N M ks ke st ed sta w) (c0 : w.cell? ⟨F, 0, none⟩ = some (.slice ad n cap)) (cD : w.cell? ⟨F, 259, none⟩ = some (.slice none 0 0)) (cC : ∀ b, b < 256 → w.cell? ⟨F, 260 + b, none⟩ = some (.int .u16 0)) (cN : w.cell? ⟨F, 516, none⟩ = some (.int .i64 0)) (ht : TXd ad XB n tx w) :
    Calls Yba.prog 22 #[.pointer (some ⟨F, 0, none⟩), .slice qa q.length qc] w fun e w' => e = .returned (.tuple #[]) ∧ ∃ cl nc vD, DOut F SB EB N M ks ke st ed sta wd cl nc vD w w' := by
  go_enter Yba.func22, Yba.ntmps22
  refine wp_seq ?_
  apply dtm0 F w
  intro w1 hw1
  subst hw1
  have B1 : Below w.heap.size w (w.alloc (.cells #[.pointer (some ⟨F, 0, none⟩)] 43)) := (Below.refl _ _).alloc (Nat.le_refl _) _
  have K1 := Kept.of_below B1
  have e1 := (MapKept.heap_alloc w (.cells #[.pointer (some ⟨F, 0, none⟩)] 43)).1
  have bF := tyOf_lt fm.tF
  have dm : DM F SB EB N M ks ke st ed sta w.heap.size (.slice ad n cap) (fun _ => 0) (.slice none 0 0) 0 (w.alloc (.cells #[.pointer (some ⟨F, 0, none⟩)] 43)) :=
    ⟨fm.new B1, (B1.cell bF).trans c0, (B1.cell bF).trans cD, fun b hb => (B1.cell bF).trans (cC b hb), (B1.cell bF).trans cN, tyOf_of e1, by simp only [World.cell?, e1]; rfl⟩
  have hsz : w.heap.size ≤ (w.alloc (.cells #[.pointer (some ⟨F, 0, none⟩)] 43)).heap.size := B1.size
  obtain ⟨wA, hwA⟩ : ∃ wA, w.alloc (.cells #[.pointer (some ⟨F, 0, none⟩)] 43) = wA := ⟨_, rfl⟩
  rw [hwA] at dm hsz B1 K1 e1 ⊢
  refine wp_seq ?_
  apply dtm1 wA
  rintro w2 rfl
  refine wp_seq ?_
  apply dtm2 F SB EB N M ks ke st ed sta w.heap.size ad XB n cap tx w2.heap.size w2 w2 ⟨dm, World.ownsRow_nil _ _ _ _, Cls.init, ht.kept K1 (fun _ x => x), Nat.le_refl _, Kept.refl _ _, Nat.le_refl _⟩
  intro _ _ _ _ _ _ _ _ _ _ _ _ _ _ _ _ _ _ _ _ _ _ _ _ _ _ _ _ _ _ _ _ _ _ _ _ _ _ _ _ _ _ _ v bs cl w3 hC hcls
  obtain ⟨va, vc, rfl⟩ := hC.dx.sl
  refine wp_seq ?_
  apply dtm3 F SB EB N M ks ke st ed sta w.heap.size (.slice ad n cap) w2.heap.size bs cl va vc w2 w3 hC.cls.len hC.dx
  intro _ _ _ _ _ _ w4 h4
  have hlen := hC.cls.len
  refine wp_seq ?_
  apply dtm4 F SB EB N M ks ke st ed sta w.heap.size (.slice ad n cap) w2.heap.size bs cl _ (bs.length + 1) w2 w4 (by omega) h4
  · intro _ _ _ _ _ _ _ _ _ _ _ w5 h5
    (try simp only [Exit.then])
    refine bodyPost_ret (results_none rfl _ _ _) rfl ?_
    exact ⟨rfl, cl, bs.length + 1, _, h5.dm.fm, h5.dm.cD, h5.dm.cC, h5.dm.cN, ⟨_, _, _, h5.dm.c0⟩, fun b => by have := hC.cls.le b; omega, by omega, .inl rfl, (K1.weak (fun _ x => x.elim)).trans h5.kept⟩
  · intro _ _ _ _ _ _ _ _ _ _ _ w5 h5 hK
    have hw2 : ∀ s t b, s < N → t < N → wd t = wd s ++ [b] → cl b ≠ 0 := fun s t b hs ht e => by
      obtain ⟨j, hj, k, hk, eb⟩ := hw s t b hs ht e
      rw [← eb]; exact hcls j k hk hj
    have hclt : ∀ b, cl b < bs.length + 1 := fun b => by have := hC.cls.le b; omega
    refine wp_seq ?_
    apply dtm5 w.heap.size w5
    rintro _ w6 rfl
    refine wp_seq ?_
    apply dtm6 F SB EB N M ks ke st ed sta w.heap.size (.slice ad n cap) w2.heap.size bs cl _ (bs.length + 1) w2 w6 hK h5
    intro _ _ _ _ _ _ _ _ _ _ _ _ _ _ w7 h7 hr7 _
    have hDB : w2.heap.size ≤ w6.heap.size := h5.kept.size
    refine wp_seq ?_
    apply dtm7 F SB EB N M ks ke st ed sta w.heap.size (.slice ad n cap) w2.heap.size bs cl va vc w6.heap.size (N * (bs.length + 1)) (bs.length + 1) w2 w7 hC.cls rfl rfl hK T.pos (fun b hb => by
      rcases E.sta b hb with ⟨e, _⟩ | ⟨_, e, _⟩
      · rw [e]; exact T.pos
      · exact e) hDB h7 hr7
    intro _ _ _ _ _ _ _ _ _ _ _ _ _ _ _ _ _ _ _ _ _ _ _ _ _ g w8 h8 hr8 g0 hg
    have hz := row_zero (nc := bs.length + 1) T E hC.cls hs0 hw2 g0 hg
    refine wp_seq ?_
    apply dtm8 qa q.length qc w8
    rintro w9 rfl
    apply dtm9 F SB EB N M ks ke st ed sta w.heap.size (.slice ad n cap) w2.heap.size bs cl (.slice va bs.length vc) w6.heap.size (N * (bs.length + 1)) (bs.length + 1) wd ef et q QB qa qc g w2 w9 T E hC.cls rfl rfl hK hDB hst hLP hB hw2 (fun h => ⟨(hqa h).1, Nat.lt_of_lt_of_le (hqa h).2.1 hsz, (hqa h).2.2⟩) (fun i s his => (B1.cell (hqa (Nat.lt_of_le_of_lt (Nat.zero_le i) (List.getElem?_eq_some_iff.1 his).1)).2.1).trans (hqc i s his)) h8 hr8 hz
    intro _ _ _ _ _ _ _ _ _ _ _ _ _ _ _ _ _ _ _ _ _ _ _ _ _ _ _ _ _ _ _ _ _ _ _ _ _ _ _ _ _ _ _ _ _ _ _ _ _ _ _ _ _ _ _ _ _ _ _ _ _ _ _ _ _ _ _ _ _ _ _ _ _ _ _ _ _ _ _ _ _ _ _ _ _ _ g2 w10 h10 hr10 hok
    go_end0
    exact ⟨rfl, cl, bs.length + 1, _, h10.dm.fm, h10.dm.cD, h10.dm.cC, h10.dm.cN, ⟨_, _, _, h10.dm.c0⟩, hclt, by omega, .inr ⟨_, g2, rfl, hK, Nat.le_trans hsz hDB, hr10, hok⟩, (K1.weak (fun _ x => x.elim)).trans h10.kept⟩
end Go.Proofs.Ybulkckss
