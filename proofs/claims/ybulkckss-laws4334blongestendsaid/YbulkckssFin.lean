import Derived.Test.YbulkckssMem
import Derived.Test.YbulkckssTrie
namespace Go.Proofs.Ybulkckss
open Go.RowKit

/-- the finder's memory: N states with the cells st, M edges ed, the start's states sta -/
structure FM (F SB EB N M ks ke : Nat) (st : Nat → Nat → Int) (ed : Nat → Nat × Nat) (sta : Nat → Nat) (w : World) : Prop where
  tF : tyOf w F = some 36
  cS : w.cell? ⟨F, 1, none⟩ = some (.slice (some ⟨SB, 0, none⟩) N ks)
  cE : w.cell? ⟨F, 2, none⟩ = some (.slice (some ⟨EB, 0, none⟩) M ke)
  cA : ∀ b, b < 256 → w.cell? ⟨F, 3 + b, none⟩ = some (.int .i32 (sta b))
  tS : tyOf w SB = some 47
  cs : ∀ s f, s < N → f < 5 → w.cell? ⟨SB, s * 5 + f, none⟩ = some (.int .i32 (st s f))
  tE : tyOf w EB = some 54
  ce : ∀ j, j < M → w.cell? ⟨EB, j * 2, none⟩ = some (.int .u8 (ed j).1) ∧ w.cell? ⟨EB, j * 2 + 1, none⟩ = some (.int .i32 (ed j).2)
  mc : M ≤ ke
  N6 : N ≤ 65537
  M6 : M ≤ 65536
variable {F SB EB N M ks ke : Nat} {st : Nat → Nat → Int} {ed : Nat → Nat × Nat} {sta : Nat → Nat} {w w' : World} {wd : Nat → List Nat}

theorem FM.kept {S : Nat → Prop} (h : FM F SB EB N M ks ke st ed sta w) (k : Kept S w w') (h1 : ¬ S F) (h2 : ¬ S SB) (h3 : ¬ S EB) : FM F SB EB N M ks ke st ed sta w' := by
  have e1 := k.block F (tyOf_lt h.tF) h1
  have e2 := k.block SB (tyOf_lt h.tS) h2
  have e3 := k.block EB (tyOf_lt h.tE) h3
  exact ⟨(tyOf_congr e1).trans h.tF, (World.cell?_of_block e1).trans h.cS, (World.cell?_of_block e1).trans h.cE, fun b hb => (World.cell?_of_block e1).trans (h.cA b hb), (tyOf_congr e2).trans h.tS,
    fun s f hs hf => (World.cell?_of_block e2).trans (h.cs s f hs hf), (tyOf_congr e3).trans h.tE, fun j hj => ⟨(World.cell?_of_block e3).trans (h.ce j hj).1, (World.cell?_of_block e3).trans (h.ce j hj).2⟩, h.mc, h.N6, h.M6⟩
theorem FM.new (h : FM F SB EB N M ks ke st ed sta w) (hb : Below w.heap.size w w') : FM F SB EB N M ks ke st ed sta w' := h.kept (Kept.of_below hb) (fun x => x) (fun x => x) (fun x => x)

/-- what the edges and the start mean -/
structure FE (N M : Nat) (wd : Nat → List Nat) (ef et : Nat → Nat) (ed : Nat → Nat × Nat) (sta : Nat → Nat) : Prop where
  le : ∀ s, 0 < s → s < N → ef s ≤ et s ∧ et s ≤ M
  ok : ∀ s j, 0 < s → s < N → ef s ≤ j → j < et s → (ed j).2 < N ∧ 0 < (ed j).2 ∧ wd (ed j).2 = wd s ++ [(ed j).1]
  all : ∀ s t b, 0 < s → s < N → t < N → wd t = wd s ++ [b] → ∃ j, ef s ≤ j ∧ j < et s ∧ ed j = (b, t)
  one : ∀ s i j, 0 < s → s < N → ef s ≤ i → i < et s → ef s ≤ j → j < et s → (ed i).2 = (ed j).2 → i = j
  b8 : ∀ j, j < M → (ed j).1 < 256
  sta : ∀ b, b < 256 → (sta b = 0 ∧ ∀ t, t < N → wd t ≠ [b]) ∨ (0 < sta b ∧ sta b < N ∧ wd (sta b) = [b])

set_option maxHeartbeats 4000000 in
set_option maxRecDepth 100000 in
/-- next -/
theorem next_call (T : Trie N wd) {ef et : Nat → Nat} (E : FE N M wd ef et ed sta) (h : FM F SB EB N M ks ke st ed sta w) (h0 : ∀ s, 0 < s → s < N → st s 0 = ef s ∧ st s 1 = et s) {s0 b : Nat} (hs : s0 < N) (hb : b < 256)
    (hf : ∀ s, 0 < s → s < N → (wd s).length ≤ (wd s0).length → ∃ f : Nat, st s 2 = f ∧ LP N wd (wd s) f) :
    Calls Yba.prog 11 #[.pointer (some ⟨F, 0, none⟩), .int .i32 s0, .int .u8 b] w fun e w' => ∃ r : Nat, e = .returned (.int .i32 r) ∧ LS N wd (wd s0 ++ [b]) r ∧ Below w.heap.size w w' := by
  have hN := h.N6
  have hM := h.M6
  have hbI : (b : Int) < 256 := by omega
  have HF : Aside _ := hf
  have H0 : Aside _ := h0
  clear hf h0
  go_enter Yba.func11, Yba.ntmps11
  go_wp2_with fail
  go_loopw [1, 7, 9] (fun x _ _ wr => ∃ s : Nat, s < N ∧ x = .int .i32 s ∧ (wd s).length ≤ (wd s0).length ∧ Below w.heap.size w wr ∧ FM F SB EB N M ks ke st ed sta wr ∧ ∀ r, LS N wd (wd s ++ [b]) r → LS N wd (wd s0 ++ [b]) r) (fun x _ _ _ => (wd (intOf x).toNat).length)
  case atStart => exact ⟨s0, hs, rfl, Nat.le_refl _, Below.refl _ _, h, fun r hr => hr⟩
  case round =>
    clear h
    obtain ⟨s, hsN, rfl, hlen, hbel, h, hgo0⟩ := hrel
    have hgo : Aside _ := hgo0
    clear hgo0
    have hsI : (s : Int) < 65537 := by omega
    have hsN' : (s : Int) < (N : Int) := by omega
    have hs0 : (0 : Int) ≤ (s : Int) := by omega
    by_cases hz : s = 0
    · subst hz
      have cb := h.cA b hb
      have fin : LS N wd (wd s0 ++ [b]) (sta b) := by
        refine hgo.out _ ?_
        rw [T.root]
        rcases E.sta b hb with ⟨e, hno⟩ | ⟨_, h1, h2⟩
        · rw [e]; exact LS.start T hno
        · have := LS.edge (wd := wd) (N := N) (s := 0) (t := sta b) (b := b) h1 (by rw [T.root]; exact h2)
          rwa [T.root] at this
      go_wp2_with fail
      go_ret
      exact ⟨_, rfl, fin, hbel⟩
    · have hne : ((s : Int) != 0) = true := by simp; omega
      obtain ⟨e0, e1⟩ := H0.out s (by omega) hsN
      have cS := h.cS
      have cE := h.cE
      have c0 : wr.cell? ⟨SB, s * 5, none⟩ = some (.int .i32 (st s 0)) := h.cs s 0 hsN (by omega)
      have c1 := h.cs s 1 hsN (by omega)
      rw [e0] at c0
      rw [e1] at c1
      obtain ⟨le1, le2⟩ := E.le s (by omega) hsN
      have hmc := h.mc
      have i1 : (0 : Int) ≤ (ef s : Int) := by omega
      have i2 : (ef s : Int) ≤ (et s : Int) := by omega
      have i3 : (et s : Int) ≤ (ke : Int) := by omega
      clear e0 e1
      go_wp2_with fail
      go_region_held3 (fun w' => w'.cell? ⟨F, 2, none⟩ = some (.slice (some ⟨EB, 0, none⟩) M ke) ∧ w'.cell? ⟨SB, s * 5, none⟩ = some (.int .i32 (ef s)) ∧ w'.cell? ⟨SB, s * 5 + 1, none⟩ = some (.int .i32 (et s))) (go_keep) (fail)
      generalize hA : (if ke = ef s then some (⟨EB, 0, none⟩ : Addr) else some ⟨EB, ef s * 2, none⟩) = A
      have HA : Hid (ef s < et s → A = some ⟨EB, ef s * 2, none⟩) := fun hlt => by rw [← hA, if_neg (by omega)]
      clear hA
      obtain ⟨n, hn⟩ : ∃ n, et s - ef s = n := ⟨_, rfl⟩
      have HN : Hid (et s - ef s = n) := hn
      rw [hn]
      have hnI : (n : Int) ≤ 65536 := by omega
      have hd := h.new (Below.refl _ _).drew
      have hbd := hbel.drew
      clear hn c0 c1 cS cE
      go_wp2_with fail
      go_loopw [9, 32] (fun _ x wr => ∃ k : Nat, k ≤ n ∧ x = .int .i64 k ∧ Below w.heap.size w wr ∧ FM F SB EB N M ks ke st ed sta wr ∧ ∀ j, j < k → (ed (ef s + j)).1 ≠ b) (fun _ x _ => 65536 - (intOf x).toNat)
      case atStart => exact ⟨0, by omega, rfl, hbd, hd, fun j hj => by omega⟩
      case round =>
        clear hbd hd h hbel
        obtain ⟨k, hk, rfl, hbel, h, hno⟩ := hrel
        by_cases hlt : k < n
        · have hkI : (k : Int) < (n : Int) := by omega
          have hk0 : (0 : Int) ≤ (k : Int) := by omega
          have hj : ef s + k < et s := by have := HN.out; omega
          obtain rfl : A = some ⟨EB, ef s * 2, none⟩ := HA.out (by omega)
          obtain ⟨d0, d1⟩ := h.ce (ef s + k) (by omega)
          have ed0 : wr.cell? ⟨EB, ef s * 2 + k * 2, none⟩ = some (.int .u8 (ed (ef s + k)).1) := by rw [← Nat.add_mul]; exact d0
          have ed1 : wr.cell? ⟨EB, ef s * 2 + k * 2 + 1, none⟩ = some (.int .i32 (ed (ef s + k)).2) := by rw [← Nat.add_mul]; exact d1
          obtain ⟨o1, o2, o3⟩ := E.ok s (ef s + k) (by omega) hsN (by omega) hj
          have hbb := E.b8 (ef s + k) (by omega)
          clear d0 d1
          by_cases he : (ed (ef s + k)).1 = b
          · have hq : (((ed (ef s + k)).1 : Int) == (b : Int)) = true := by simp; omega
            have fin : LS N wd (wd s0 ++ [b]) (ed (ef s + k)).2 := hgo.out _ (by rw [he] at o3; exact LS.edge o1 o3)
            clear he
            go_wp2_with fail
            go_ret
            exact ⟨_, rfl, fin, hbel.alloc hbel.size _⟩
          · have hq : (((ed (ef s + k)).1 : Int) == (b : Int)) = false := by simp; omega
            have h2 : ∀ o, FM F SB EB N M ks ke st ed sta (wr.alloc o) := fun o => h.new ((Below.refl _ _).alloc (Nat.le_refl _) o)
            have hb2 : ∀ o, Below w.heap.size w (wr.alloc o) := fun o => hbel.alloc hbel.size o
            have hno2 : ∀ j, j < k + 1 → (ed (ef s + j)).1 ≠ b := fun j hj2 => by
              by_cases e : j = k
              · rw [e]; exact he
              · exact hno j (by omega)
            have HB : Aside _ := hb2
            have H2 : Aside _ := h2
            have HNO : Aside _ := hno2
            clear he hno hb2 h2 hno2
            go_wp2_with fail
            go_roundw
            case rel => exact ⟨k + 1, by omega, by go_num, HB.out _, H2.out _, HNO.out⟩
            case measure => simp [intOf]; omega
        · obtain ⟨f, hf2, hLP⟩ := HF.out s (by omega) hsN hlen
          have c2 := (h.cs s 2 hsN (by omega)).trans (by rw [hf2])
          have hne2 : ∀ t, t < N → wd t ≠ wd s ++ [b] := fun t ht e => by
            obtain ⟨j, j1, j2, ej⟩ := E.all s t b (by omega) hsN ht e
            have := HN.out
            have h3 := hno (j - ef s) (by omega)
            rw [show ef s + (j - ef s) = j from by omega, ej] at h3
            exact h3 rfl
          have hgo2 : ∀ r, LS N wd (wd f ++ [b]) r → LS N wd (wd s0 ++ [b]) r := fun r hr => hgo.out r (LS.fail T hne2 hLP hr)
          have HG : Aside _ := hgo2
          have HNE : Aside _ := hne2
          have HL : Hid ((wd f).length < (wd s).length) := hLP.2.2.1
          have hfN : f < N := hLP.1
          have hkn : (n : Int) ≤ (k : Int) := by omega
          clear hgo2 hne2 hno hf2
          go_wp2_with fail
          go_roundw
          case rel => exact ⟨f, hfN, rfl, by have := HL.out; omega, hbel, h, HG.out⟩
          case measure => have := HL.out; simp [intOf]; omega

def upS (st : Nat → Nat → Int) (s f : Nat) (v : Int) : Nat → Nat → Int := fun x y => if x = s ∧ y = f then v else st x y
theorem FM.setS (h : FM F SB EB N M ks ke st ed sta w) (s f : Nat) (hf : f < 5) (v : Int) : FM F SB EB N M ks ke (upS st s f v) ed sta (w.setCell ⟨SB, s * 5 + f, none⟩ (.int .i32 v)) := by
  have n1 := tyOf_ne h.tF h.tS (by decide)
  have n2 := tyOf_ne h.tE h.tS (by decide)
  refine ⟨(set_ty h.tS).trans h.tF, (set_cell_ne n1).trans h.cS, (set_cell_ne n1).trans h.cE, fun b hb => (set_cell_ne n1).trans (h.cA b hb), (set_ty h.tS).trans h.tS, fun x y hx hy => ?_, (set_ty h.tS).trans h.tE, fun j hj => ⟨(set_cell_ne n2).trans (h.ce j hj).1, (set_cell_ne n2).trans (h.ce j hj).2⟩, h.mc, h.N6, h.M6⟩
  rw [set_cell (h.cs x y hx hy)]
  unfold upS
  by_cases e : x = s ∧ y = f
  · obtain ⟨rfl, rfl⟩ := e
    simp
  · rw [if_neg e, if_neg (fun z => by simp only [Addr.mk.injEq, true_and, and_true] at z; exact e ⟨by omega, by omega⟩)]

/-- what link leaves -/
structure Lnk (F SB EB N M ks ke : Nat) (st : Nat → Nat → Int) (ed : Nat → Nat × Nat) (sta : Nat → Nat) (t r : Nat) (w w' : World) : Prop where
  out : ∃ st', FM F SB EB N M ks ke st' ed sta w' ∧ st' t 2 = r ∧ (∀ s f, ¬ (s = t ∧ (f = 2 ∨ f = 4)) → st' s f = st s f) ∧ Kept (fun k => k = SB) w w'
set_option maxHeartbeats 2000000 in
set_option maxRecDepth 100000 in
theorem link_call (h : FM F SB EB N M ks ke st ed sta w) {t r : Nat} (ht : t < N) (hr : r < N) :
    Calls Yba.prog 21 #[.pointer (some ⟨F, 0, none⟩), .int .i32 t, .int .i32 r] w fun e w' => e = .returned (.tuple #[]) ∧ Lnk F SB EB N M ks ke st ed sta t r w w' := by
  have hN := h.N6
  have htI : (t : Int) < (N : Int) := by omega
  have hrI : (r : Int) < (N : Int) := by omega
  have ht0 : (0 : Int) ≤ (t : Int) := by omega
  have hr0 : (0 : Int) ≤ (r : Int) := by omega
  have ht6 : (t : Int) < 65537 := by omega
  have s1 := h.setS t 2 (by omega) r
  have n1 := tyOf_ne h.tF h.tS (by decide)
  have c1 := h.cS
  have c2 := h.cs t 2 ht (by omega)
  have c3 := h.cs t 3 ht (by omega)
  have c4 := h.cs t 4 ht (by omega)
  have r4 := h.cs r 4 hr (by omega)
  have fz := tyOf_frozen h.tS
  have ne1 : ¬ (t * 5 + 2 = r * 5 + 4) := by omega
  have s2 := s1.setS t 4 (by omega) (st r 4)
  have s3 := s2.setS t 4 (by omega) t
  have k1 : Kept (fun k => k = SB) w (w.setCell ⟨SB, t * 5 + 2, none⟩ (.int .i32 r)) := (Kept.refl (fun k => k = SB) w).setCell rfl _
  have k2 := k1.setCell (b := SB) (o := t * 5 + 4) rfl (.int .i32 (st r 4))
  have k3 := k2.setCell (b := SB) (o := t * 5 + 4) rfl (.int .i32 (t : Int))
  have A : Lnk F SB EB N M ks ke st ed sta t r w (((w.setCell ⟨SB, t * 5 + 2, none⟩ (.int .i32 r)).setCell ⟨SB, t * 5 + 4, none⟩ (.int .i32 (st r 4)))) :=
    ⟨_, s2, by simp [upS], fun s f hn => by unfold upS; rw [if_neg (fun z => hn ⟨z.1, .inr z.2⟩), if_neg (fun z => hn ⟨z.1, .inl z.2⟩)], k2⟩
  have B : Lnk F SB EB N M ks ke st ed sta t r w ((((w.setCell ⟨SB, t * 5 + 2, none⟩ (.int .i32 r)).setCell ⟨SB, t * 5 + 4, none⟩ (.int .i32 (st r 4)))).setCell ⟨SB, t * 5 + 4, none⟩ (.int .i32 (t : Int))) :=
    ⟨_, s3, by simp [upS], fun s f hn => by unfold upS; rw [if_neg (fun z => hn ⟨z.1, .inr z.2⟩), if_neg (fun z => hn ⟨z.1, .inr z.2⟩), if_neg (fun z => hn ⟨z.1, .inl z.2⟩)], k3⟩
  generalize st r 4 = v4 at *
  generalize st t 3 = v3 at *
  clear s1 s2 s3 k1 k2 k3
  by_cases h3' : 0 ≤ v3
  · go_enter Yba.func21, Yba.ntmps21
    go_wp2_with fail
    go_end0
    exact ⟨rfl, B⟩
  · go_enter Yba.func21, Yba.ntmps21
    go_wp2_with fail
    go_end0
    exact ⟨rfl, A⟩
end Go.Proofs.Ybulkckss
