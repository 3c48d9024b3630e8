import Derived.Test.YbulkckssD1
namespace Go.Proofs.Ybulkckss
open Go.RowKit

theorem Trie.pre {N : Nat} {wd : Nat → List Nat} (T : Trie N wd) : ∀ (d t i : Nat), t < N → (wd t).length = d → i ≤ d → ∃ s, s < N ∧ wd s = (wd t).take i := by
  intro d
  induction d with
  | zero =>
    intro t i ht hl hi
    exact ⟨t, ht, by rw [List.take_of_length_le (by omega)]⟩
  | succ d ih =>
    intro t i ht hl hi
    by_cases e : i = d + 1
    · exact ⟨t, ht, by rw [List.take_of_length_le (by omega)]⟩
    · have t0 : 0 < t := Nat.pos_of_ne_zero fun e0 => by rw [e0, T.root] at hl; simp at hl
      obtain ⟨s, b, hs, e1⟩ := T.par t ht t0
      rw [e1] at hl
      simp at hl
      obtain ⟨x, hx, ex⟩ := ih s i hs hl (by omega)
      refine ⟨x, hx, ?_⟩
      rw [ex, e1, List.take_append_of_le_length (by omega)]
theorem take_next {u : List Nat} {i x : Nat} (h : u[i]? = some x) : u.take (i + 1) = u.take i ++ [x] := by
  rw [List.take_add_one, h]; rfl
theorem alloc_s2 (w : World) (a b : Value) (t : TypeId) : (w.alloc (.cells #[a, b] t)).cell? ⟨w.heap.size, 0, none⟩ = some a ∧ (w.alloc (.cells #[a, b] t)).cell? ⟨w.heap.size, 1, none⟩ = some b := by
  have e2 : (w.alloc (.cells #[a, b] t)).heap[w.heap.size]? = some (.cells #[a, b] t) := (MapKept.heap_alloc w _).1
  constructor <;> (simp only [World.cell?, e2]; rfl)
theorem alloc_at5 (w : World) (a b c d e : Value) (t : TypeId) : (w.alloc (.cells #[a, b, c, d, e] t)).cell? ⟨w.heap.size, 0, none⟩ = some a ∧ (w.alloc (.cells #[a, b, c, d, e] t)).cell? ⟨w.heap.size, 1, none⟩ = some b := by
  have e2 : (w.alloc (.cells #[a, b, c, d, e] t)).heap[w.heap.size]? = some (.cells #[a, b, c, d, e] t) := (MapKept.heap_alloc w _).1
  constructor <;> (simp only [World.cell?, e2]; rfl)

set_option maxHeartbeats 4000000 in
set_option maxRecDepth 100000 in
/-- the state of a word -/
theorem state_call {F SB EB N M ks ke : Nat} {st : Nat → Nat → Int} {ed : Nat → Nat × Nat} {sta ef et : Nat → Nat} {wd : Nat → List Nat} {w : World} {UB uo uc t0 n : Nat} {ua : Option Addr} (u : List Nat) (hn : Hid (u.length = n)) (T : Trie N wd) (E : FE N M wd ef et ed sta) (h : FM F SB EB N M ks ke st ed sta w) (h0 : ∀ s, 0 < s → s < N → st s 0 = ef s ∧ st s 1 = et s)
    (hu : ∀ (j x : Nat), u[j]? = some x → w.cell? ⟨UB, uo + j, none⟩ = some (.int .u8 x)) (hub : 0 < n → ua = some ⟨UB, uo, none⟩ ∧ UB < w.heap.size) (h8 : ∀ x, x ∈ u → x < 256) (hl : n ≤ 256) (ht : t0 < N) (hw : wd t0 = u) :
    Calls Yba.prog 13 #[.pointer (some ⟨F, 0, none⟩), .slice ua n uc] w fun e w' => e = .returned (.int .i32 t0) ∧ Below w.heap.size w w' := by
  have hlI : (n : Int) ≤ 256 := by omega
  by_cases u0 : n = 0
  · have hb0 : ((n : Int) == 0) = true := by simp [u0]
    have e0 : t0 = 0 := T.inj _ _ ht T.pos (by rw [hw, T.root]; exact List.eq_nil_of_length_eq_zero (by rw [hn.out]; exact u0))
    subst e0
    clear u0
    go_enter Yba.func13, Yba.ntmps13
    go_wp2_with fail
    go_ret
    exact ⟨rfl, Below.refl _ _⟩
  obtain ⟨rfl, hUl⟩ := hub (by omega)
  have hb0 : ((n : Int) == 0) = false := by simp; omega
  obtain ⟨x0, hx0⟩ : ∃ x, u[0]? = some x := ⟨_, List.getElem?_eq_getElem (by rw [hn.out]; omega)⟩
  have x08 := h8 x0 (List.mem_of_getElem? hx0)
  have cu0 := hu 0 x0 hx0
  rw [Nat.add_zero] at cu0
  obtain ⟨s1, hs1, es1⟩ := T.pre _ t0 1 ht rfl (by rw [hw, hn.out]; omega)
  rw [hw, take_next (u := u) (i := 0) hx0, List.take_zero, List.nil_append] at es1
  obtain ⟨a0, aN, aw⟩ : 0 < sta x0 ∧ sta x0 < N ∧ wd (sta x0) = [x0] := by
    rcases E.sta x0 x08 with ⟨_, hno⟩ | hh
    · exact absurd es1 (hno s1 hs1)
    · exact hh
  have cA := h.cA x0 x08
  have x0I : (x0 : Int) < 256 := by omega
  have ulI : (0 : Int) < (n : Int) := by omega
  have ulN : 0 < n := by omega
  have sne : ((sta x0 : Int) == 0) = false := by simp; omega
  have hd := h.new (Below.refl _ _).drew
  have aw1 : wd (sta x0) = u.take 1 := by rw [take_next (u := u) (i := 0) hx0, List.take_zero, List.nil_append]; exact aw
  have HAW : Hid (wd (sta x0) = u.take 1) := aw1
  have HU : Aside _ := hu
  have H8 : Aside _ := h8
  have H0 : Aside _ := h0
  have HW : Hid (wd t0 = u) := hw
  have HX0 : Hid (u[0]? = some x0) := hx0
  clear hu h8 h0 hw hub es1 aw aw1 u0 hx0
  go_enter Yba.func13, Yba.ntmps13
  go_wp2_with fail
  go_region_held3 (fun w' => w'.cell? ⟨UB, uo, none⟩ = some (.int .u8 x0) ∧ w'.cell? ⟨F, 3 + x0, none⟩ = some (.int .i32 (sta x0))) (go_keep) (fail)
  clear cu0 cA
  go_wp2_with fail
  go_loopw [5, 6, 7, 8, 10] (fun tv x _ _ _ wr => ∃ (i t : Nat), 1 ≤ i ∧ i ≤ n ∧ x = .int .i64 i ∧ tv = .int .i32 t ∧ t < N ∧ 0 < t ∧ wd t = u.take i ∧ Below w.heap.size w wr ∧ FM F SB EB N M ks ke st ed sta wr) (fun _ x _ _ _ _ => 256 - (intOf x).toNat)
  case atStart => exact ⟨1, sta x0, Nat.le_refl _, by omega, rfl, rfl, aN, a0, HAW.out, (Below.refl _ _).drew, hd⟩
  case round =>
    clear hd h
    obtain ⟨i, t, hi1, hi, rfl, rfl, tN, tp, etw, hbel, h⟩ := hrel
    have hI0 : (0 : Int) ≤ (i : Int) := by omega
    by_cases hlt : i < n
    · have hI : (i : Int) < (n : Int) := by omega
      obtain ⟨x, hx⟩ : ∃ x, u[i]? = some x := ⟨_, List.getElem?_eq_getElem (by rw [hn.out]; omega)⟩
      have x8 := H8.out x (List.mem_of_getElem? hx)
      have cu : wr.cell? ⟨UB, uo + i, none⟩ = some (.int .u8 x) := (hbel.cell hUl).trans (HU.out i x hx)
      obtain ⟨s2, hs2, es2⟩ := T.pre _ t0 (i + 1) ht rfl (by rw [HW.out, hn.out]; omega)
      rw [HW.out, take_next hx, ← etw] at es2
      obtain ⟨je, je1, je2, je3⟩ := E.all t s2 x tp tN hs2 es2
      obtain ⟨e0, e1⟩ := H0.out t tp tN
      have c0 : wr.cell? ⟨SB, t * 5, none⟩ = some (.int .i32 (st t 0)) := h.cs t 0 tN (by omega)
      have c1 := h.cs t 1 tN (by omega)
      have c2 := h.cs t 2 tN (by omega)
      have c3 := h.cs t 3 tN (by omega)
      have c4 := h.cs t 4 tN (by omega)
      rw [e0] at c0
      rw [e1] at c1
      generalize st t 2 = y2 at c2
      generalize st t 3 = y3 at c3
      generalize st t 4 = y4 at c4
      have cS := h.cS
      obtain ⟨le1, le2⟩ := E.le t tp tN
      have hmc := h.mc
      have hM6 := h.M6
      have hN6 := h.N6
      have tI : (t : Int) < (N : Int) := by omega
      have tI0 : (0 : Int) ≤ (t : Int) := by omega
      have i1 : (0 : Int) ≤ (ef t : Int) := by omega
      have i2 : (ef t : Int) ≤ (et t : Int) := by omega
      have i3 : (et t : Int) ≤ (ke : Int) := by omega
      have HX : Hid (u[i]? = some x) := hx
      have HETW : Hid (wd t = u.take i) := etw
      have HJE : Hid (ef t ≤ je ∧ je < et t ∧ (ed je).1 = x) := ⟨je1, je2, by rw [je3]⟩
      have B1 : Below wr.heap.size wr (wr.alloc (.cells #[.int .i32 (ef t), .int .i32 (et t), .int .i32 y2, .int .i32 y3, .int .i32 y4] 47)).drew := ((Below.refl _ _).alloc (Nat.le_refl _) _).drew
      have h1 := h.new B1
      have a0' := (alloc_at5 wr (.int .i32 (ef t)) (.int .i32 (et t)) (.int .i32 y2) (.int .i32 y3) (.int .i32 y4) 47).1
      have a1' := (alloc_at5 wr (.int .i32 (ef t)) (.int .i32 (et t)) (.int .i32 y2) (.int .i32 y3) (.int .i32 y4) 47).2
      have S1 : (wr.alloc (.cells #[.int .i32 (ef t), .int .i32 (et t), .int .i32 y2, .int .i32 y3, .int .i32 y4] 47)).drew.cell? ⟨F, 2, none⟩ = some (.slice (some ⟨EB, 0, none⟩) M ke) ∧ (wr.alloc (.cells #[.int .i32 (ef t), .int .i32 (et t), .int .i32 y2, .int .i32 y3, .int .i32 y4] 47)).drew.cell? ⟨wr.heap.size, 0, none⟩ = some (.int .i32 (ef t)) ∧ (wr.alloc (.cells #[.int .i32 (ef t), .int .i32 (et t), .int .i32 y2, .int .i32 y3, .int .i32 y4] 47)).drew.cell? ⟨wr.heap.size, 1, none⟩ = some (.int .i32 (et t)) := ⟨h1.cE, a0', a1'⟩
      have hbelB : Below w.heap.size w (wr.alloc (.cells #[.int .i32 (ef t), .int .i32 (et t), .int .i32 y2, .int .i32 y3, .int .i32 y4] 47)).drew := (hbel.alloc hbel.size _).drew
      clear hx etw es2 e0 e1 je1 je2 je3 hs2 B1 cu h
      go_wp2_with fail
      go_region_held3 (fun w' => w'.cell? ⟨F, 2, none⟩ = some (.slice (some ⟨EB, 0, none⟩) M ke) ∧ w'.cell? ⟨wr.heap.size, 0, none⟩ = some (.int .i32 (ef t)) ∧ w'.cell? ⟨wr.heap.size, 1, none⟩ = some (.int .i32 (et t))) (first | exact S1 | go_keep) (fail)
      generalize hA : (if ke = ef t then some (⟨EB, 0, none⟩ : Addr) else some ⟨EB, ef t * 2, none⟩) = A
      have HA : Hid (ef t < et t → A = some ⟨EB, ef t * 2, none⟩) := fun hlt => by rw [← hA, if_neg (by omega)]
      clear hA
      obtain ⟨m, hm⟩ : ∃ m, et t - ef t = m := ⟨_, rfl⟩
      have HM : Hid (et t - ef t = m) := hm
      rw [hm]
      have hmI : (m : Int) ≤ 65536 := by omega
      generalize (wr.alloc (.cells #[.int .i32 (ef t), .int .i32 (et t), .int .i32 y2, .int .i32 y3, .int .i32 y4] 47)).drew = W at *
      clear hm c0 c1 c2 c3 c4 cS S1 a0' a1' hbel
      go_wp2_with fail
      go_loopw [5, 8, 10, 47] (fun tv fv _ y wr => ∃ k : Nat, k ≤ m ∧ y = .int .i64 k ∧ tv = .int .i32 t ∧ fv = .bool false ∧ Below w.heap.size w wr ∧ FM F SB EB N M ks ke st ed sta wr ∧ ∀ j, j < k → (ed (ef t + j)).1 ≠ x) (fun _ _ _ y _ => 65536 - (intOf y).toNat)
      case atStart => exact ⟨0, by omega, rfl, rfl, rfl, hbelB, h1, fun j hj => by omega⟩
      case round =>
        clear hbelB h1
        obtain ⟨k, hk, rfl, rfl, rfl, hbel, h, hno⟩ := hrel
        by_cases hltk : k < m
        · have hkI : (k : Int) < (m : Int) := by omega
          have hk0 : (0 : Int) ≤ (k : Int) := by omega
          have hj : ef t + k < et t := by have := HM.out; omega
          obtain rfl : A = some ⟨EB, ef t * 2, none⟩ := HA.out (by omega)
          obtain ⟨d0, d1⟩ := h.ce (ef t + k) (by omega)
          have ed0 : wr.cell? ⟨EB, ef t * 2 + k * 2, none⟩ = some (.int .u8 (ed (ef t + k)).1) := by rw [← Nat.add_mul]; exact d0
          have ed1 : wr.cell? ⟨EB, ef t * 2 + k * 2 + 1, none⟩ = some (.int .i32 (ed (ef t + k)).2) := by rw [← Nat.add_mul]; exact d1
          obtain ⟨o1, o2, o3⟩ := E.ok t (ef t + k) tp tN (by omega) hj
          have hbb := E.b8 (ef t + k) (by omega)
          obtain ⟨b, hbE⟩ : ∃ b, (ed (ef t + k)).1 = b := ⟨_, rfl⟩
          obtain ⟨t2, htE⟩ : ∃ t2, (ed (ef t + k)).2 = t2 := ⟨_, rfl⟩
          have hno2 : b ≠ x → ∀ j, j < k + 1 → (ed (ef t + j)).1 ≠ x := fun hbx j hj2 => by
            by_cases e : j = k
            · rw [e, hbE]; exact hbx
            · exact hno j (by omega)
          rw [hbE] at ed0 o3 hbb
          rw [htE] at ed1 o1 o2 o3
          have B1 : Below wr.heap.size wr (wr.alloc (.cells #[.int .u8 b, .int .i32 t2] 54)).drew := ((Below.refl _ _).alloc (Nat.le_refl _) _).drew
          have h1 := h.new B1
          have a0' := (alloc_s2 wr (.int .u8 b) (.int .i32 t2) 54).1
          have a1' := (alloc_s2 wr (.int .u8 b) (.int .i32 t2) 54).2
          have hbelB : Below w.heap.size w (wr.alloc (.cells #[.int .u8 b, .int .i32 t2] 54)).drew := (hbel.alloc hbel.size _).drew
          have cu : (wr.alloc (.cells #[.int .u8 b, .int .i32 t2] 54)).drew.cell? ⟨UB, uo + i, none⟩ = some (.int .u8 x) := (hbelB.cell hUl).trans (HU.out i x HX.out)
          have S1 : (wr.alloc (.cells #[.int .u8 b, .int .i32 t2] 54)).drew.cell? ⟨wr.heap.size, 0, none⟩ = some (.int .u8 b) ∧ (wr.alloc (.cells #[.int .u8 b, .int .i32 t2] 54)).drew.cell? ⟨UB, uo + i, none⟩ = some (.int .u8 x) := ⟨a0', cu⟩
          have HNO : Aside _ := hno2
          clear hbE htE d0 d1 hno hno2 hbel h
          by_cases hbx : b = x
          · have hq : ((b : Int) == (x : Int)) = true := by simp; omega
            have etw2 : wd t2 = u.take (i + 1) := by rw [o3, take_next HX.out, HETW.out, hbx]
            have HET2 : Hid (wd t2 = u.take (i + 1)) := etw2
            clear hbx etw2 o3
            go_wp2_with fail
            go_region_held3 (fun w' => w'.cell? ⟨wr.heap.size, 0, none⟩ = some (.int .u8 b) ∧ w'.cell? ⟨UB, uo + i, none⟩ = some (.int .u8 x)) (first | exact S1 | go_keep) (fail)
            go_wp2_with fail
            go_roundw
            case rel => exact ⟨i + 1, t2, by omega, by omega, by go_num, rfl, o1, o2, HET2.out, hbelB, h1⟩
            case measure => simp [intOf]; omega
          · have hq : ((b : Int) == (x : Int)) = false := by simp; omega
            have HN2 : Aside _ := HNO.out hbx
            clear hbx HNO o3
            go_wp2_with fail
            go_region_held3 (fun w' => w'.cell? ⟨wr.heap.size, 0, none⟩ = some (.int .u8 b) ∧ w'.cell? ⟨UB, uo + i, none⟩ = some (.int .u8 x)) (first | exact S1 | go_keep) (fail)
            go_wp2_with fail
            go_roundw
            case rel => exact ⟨k + 1, by omega, by go_num, rfl, rfl, hbelB, h1, HN2.out⟩
            case measure => simp [intOf]; omega
        · obtain ⟨je1, je2, je3⟩ := HJE.out
          have hM := HM.out
          exact absurd (by rw [show ef t + (je - ef t) = je from by omega]; exact je3) (hno (je - ef t) (by omega))
    · have hI : (n : Int) ≤ (i : Int) := by omega
      have e : t = t0 := T.inj _ _ tN ht (by rw [etw, HW.out, List.take_of_length_le (by rw [hn.out]; omega)])
      subst e
      clear etw
      go_wp2_with fail
      go_ret
      exact ⟨rfl, hbel⟩
end Go.Proofs.Ybulkckss
