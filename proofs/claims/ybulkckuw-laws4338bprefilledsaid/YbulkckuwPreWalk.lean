import Derived.Test.YbulkckuwPreState
namespace Go.Proofs.Ybulkckuw
open Go.RowKit

theorem cnt_no {a c : Nat} {b : Bool} (h : a = c + if b then 1 else 0) (hb : b = false) : a = c := by rw [hb] at h; simpa using h
theorem cnt_yes {a c : Nat} {b : Bool} (h : a = c + if b then 1 else 0) (hb : b = true) : a = c + 1 := by rw [hb] at h; simpa using h

theorem ob_eq {s t : Bool} (h : s = t) (x : Value) : Obj.cells #[x, .bool s] 46 = Obj.cells #[x, .bool t] 46 := by rw [h]

set_option maxHeartbeats 2000000 in
set_option maxRecDepth 100000 in
theorem pre_walk (mc : Array Value) (ms : Nat → Nat) (a : Option Addr) (b off n cap : Nat) (pk : Nat → Nat) (sc : Nat → Bool) (w : World) (hmc : ∀ i, i < 10 → mc[i]? = some (.int .u8 (ms i))) (hm8 : ∀ i, ms i < 256)
    (hn : n ≤ 1024) (ha : Hid (n = 0 ∨ a = some ⟨b, off, none⟩)) (hbl : 0 < n → b < w.heap.size) (hpk : ∀ i, pk i < 256)
    (hc : ∀ i, i < n → w.cell? ⟨b, off + i * 2, none⟩ = some (.int .u8 (pk i)) ∧ w.cell? ⟨b, off + i * 2 + 1, none⟩ = some (.bool (sc i))) :
    Calls Yba.prog 4 #[.agg mc, .slice a n cap] w fun e w' => e = .returned (.bool true) ∧ Below w.heap.size w w' := by
  have hd : decide ((1024 : Int) < (n : Int)) = false := by simp; omega
  have hmm := @run_makeMap Yba.prog
  have hz39 := zero39
  have hz56 := zero56
  have hz57 := zero57
  go_enter Yba.func4, Yba.ntmps4
  go_wp2_with fail
  go_loopw [7] (fun i wr => ∃ k : Nat, k ≤ 10 ∧ i = .int .i64 k ∧ L1 w mc k wr) (fun i _ => 10 - (intOf i).toNat)
  case atStart => exact ⟨0, by omega, rfl, l1_0 w mc⟩
  case round =>
    obtain ⟨k, hk, rfl, h1⟩ := hrel
    by_cases hlt : k < 10
    · obtain ⟨ac, hA, hAc⟩ := h1.hA
      obtain ⟨h, hh⟩ : ∃ h, h = k / 2 := ⟨_, rfl⟩
      have hk2 : (k : Int) / 2 = (h : Int) := by omega
      have hk1 : ((k : Int) % 2 == 1) = usec k := by unfold usec; rw [Bool.eq_iff_iff]; simp; omega
      have hh5 : h < 5 := by omega
      have s0 : k * 2 < ac.size := by rw [hAc.1]; omega
      have s1 : k * 2 + 1 < ac.size := by rw [hAc.1]; omega
      have c0 : wr.cell? ⟨w.heap.size + 1 + 1, k * 2, none⟩ = some ac[k * 2] := by simp [World.cell?, hA, s0]
      have c1 : wr.cell? ⟨w.heap.size + 1 + 1, k * 2 + 1, none⟩ = some ac[k * 2 + 1] := by simp [World.cell?, hA, s1]
      have f0 : wr.frozen? ⟨w.heap.size + 1 + 1, k * 2, none⟩ = false := by simp [World.frozen?, hA]
      have f1 : wr.frozen? ⟨w.heap.size + 1 + 1, k * 2 + 1, none⟩ = false := by simp [World.frozen?, hA]
      generalize ac[k * 2] = x0 at c0
      generalize ac[k * 2 + 1] = x1 at c1
      have HH : Hid (h = k / 2) := hh
      clear hh s0 s1 hA hAc
      go_wp2_with fail
      refine (ptr_half (w.heap.size + 1) k h hlt HH.out _).mono ?_
      rintro e w' ⟨rfl, rfl⟩
      have L := l1_step h1 hlt
      go_wp2_with fail
      go_roundw
      case rel => exact ⟨k + 1, by omega, by go_num, L⟩
      case measure => simp [intOf]; omega
    · obtain rfl : k = 10 := by omega
      obtain ⟨ac, hA, hAc⟩ := h1.hA
      have hsz := h1.sz
      have g0 := l2_0 h1 hA
      clear h1 hA hz56 hz39
      go_wp2_with fail
      clear hmm
      go_loopw [9] (fun i wr => ∃ k : Nat, k ≤ 10 ∧ i = .int .i64 k ∧ L2 w mc ac (pre ms k) wr) (fun i _ => 10 - (intOf i).toNat)
      case atStart => exact ⟨0, by omega, rfl, g0⟩
      case round =>
        clear g0
        obtain ⟨k, hk, rfl, h2⟩ := hrel
        by_cases hlt2 : k < 10
        · have hM := h2.hM
          have hA := h2.hA
          have hD := h2.hD
          obtain ⟨a0, a1⟩ := hAc.2 k hlt2
          have mk : wr.cell? ⟨w.heap.size, k, none⟩ = some (.int .u8 (ms k)) := by simp [World.cell?, hM, hmc k hlt2]
          have c0 : wr.cell? ⟨w.heap.size + 1 + 1, k * 2, none⟩ = some (.pointer (upt (w.heap.size + 1) k)) := by simp [World.cell?, hA, a0]
          have c1 : wr.cell? ⟨w.heap.size + 1 + 1, k * 2 + 1, none⟩ = some (.bool (usec k)) := by simp [World.cell?, hA, a1]
          have d0 : wr.cell? ⟨w.heap.size + 3 + 1, 0, none⟩ = some (.map (some (w.heap.size + 3))) := by simp [World.cell?, hD]
          have hm := hm8 k
          clear hM hA hD a0 a1
          cases e1 : m1 ms k
          · cases e2 : m2 ms k
            · have t1 : ((ms k : Int) % 3 == 1) = false := by unfold m1 at e1; simp at e1 ⊢; omega
              have t2 : ((ms k : Int) % 3 == 2) = false := by unfold m2 at e2; simp at e2 ⊢; omega
              have HP : Hid (pre ms (k + 1) = pre ms k) := by simp [Hid, pre, e1, e2]
              clear e1 e2
              go_wp2_with fail
              go_roundw
              case rel => exact ⟨k + 1, by omega, by go_num, by rw [HP.out]; exact h2⟩
              case measure => simp [intOf]; omega
            · have t1 : ((ms k : Int) % 3 == 1) = false := by unfold m1 at e1; simp at e1 ⊢; omega
              have t2 : ((ms k : Int) % 3 == 2) = true := by unfold m2 at e2; simp at e2 ⊢; omega
              have HP : Hid (pre ms (k + 1) = upd k true (pre ms k)) := by simp [Hid, pre, e1, e2]
              have hmu := store_run (w.heap.size + 1) k (w.heap.size + 3) true (pre ms k) wr.drew h2.hr
              unfold uv at hmu
              clear e1 e2
              go_wp2_with fail
              go_region
              all_goals
                go_wp2_with fail
                go_roundw
                case rel => exact ⟨k + 1, by omega, by go_num, by rw [HP.out]; exact l2_put h2 _⟩
                case measure => simp [intOf]; omega
          · have t1 : ((ms k : Int) % 3 == 1) = true := by unfold m1 at e1; simp at e1 ⊢; omega
            have HP : Hid (pre ms (k + 1) = upd k false (pre ms k)) := by simp [Hid, pre, e1]
            have hmu := store_run (w.heap.size + 1) k (w.heap.size + 3) false (pre ms k) wr.drew h2.hr
            unfold uv at hmu
            clear e1
            go_wp2_with fail
            go_region
            all_goals
              go_wp2_with fail
              go_roundw
              case rel => exact ⟨k + 1, by omega, by go_num, by rw [HP.out]; exact l2_put h2 _⟩
              case measure => simp [intOf]; omega
        · obtain rfl : k = 10 := by omega
          have hsz2 := h2.sz
          have g3 := l3_0 h2
          clear h2 hsz
          go_wp2_with fail
          clear hz57
          go_loopw [11, 72] (fun vm i wr => ∃ (k : Nat) (vt : Value) (rf : Nat → Bool) (us : List Nat) (l : List (Nat × Bool)), k ≤ n ∧ i = .int .i64 k ∧ us.length ≤ k ∧ L3 w mc ac ms rf us l vt vm wr) (fun _ i _ => n - (intOf i).toNat)
          case atStart => exact ⟨0, .slice none 0 0, _, _, _, Nat.zero_le _, rfl, Nat.le_refl _, g3⟩
          case round =>
            clear g3 hsz2
            obtain ⟨k, vt, rf, us, l, hk, rfl, hul, h3⟩ := hrel
            by_cases hlt3 : k < n
            · have hltI : (k : Int) < (n : Int) := by omega
              obtain rfl : a = some ⟨b, off, none⟩ := ha.out.resolve_left (by omega)
              replace hbl := hbl (by omega)
              clear ha
              obtain ⟨c0, c1⟩ := hc k hlt3
              have d0 := (h3.hb.cell (p := ⟨b, off + k * 2, none⟩) hbl).trans c0
              have d1 := (h3.hb.cell (p := ⟨b, off + k * 2 + 1, none⟩) hbl).trans c1
              clear c0 c1 hc
              have hp := hpk k
              have hs3 := h3.sz
              obtain ⟨p, hpp⟩ : ∃ p, p = pk k % 5 := ⟨_, rfl⟩
              have hp5 : (pk k : Int) % 5 = (p : Int) := by omega
              have hpl : p < 5 := by omega
              obtain ⟨c, hcc⟩ : ∃ c, c = code (pk k) (sc k) := ⟨_, rfl⟩
              have hc10 : c < 10 := by rw [hcc]; unfold code; split <;> omega
              have hcs : (sc k = false ∧ (p : Int) * 2 = (c : Int)) ∨ (sc k = true ∧ (p : Int) * 2 + 1 = (c : Int)) := by
                rw [hcc]; unfold code
                cases sc k
                · left; simp; omega
                · right; simp; omega
              clear hpp hcc
              obtain ⟨rc, hR, hRi⟩ := h3.hR
              have hrs : c < rc.size := by rw [hRi.1]; omega
              have r0 : wr.cell? ⟨w.heap.size + 5, c, none⟩ = some rc[c] := by simp [World.cell?, hR, hrs]
              have f0 : wr.frozen? ⟨w.heap.size + 5, c, none⟩ = false := by simp [World.frozen?, hR]
              generalize rc[c] = x0 at r0
              clear hrs hR hRi
              obtain ⟨a0, a1⟩ := hAc.2 c hc10
              have mk : wr.cell? ⟨w.heap.size, c, none⟩ = some (.int .u8 (ms c)) := by simp [World.cell?, h3.hM, hmc c hc10]
              have k0 : wr.cell? ⟨w.heap.size + 1 + 1, c * 2, none⟩ = some (.pointer (upt (w.heap.size + 1) c)) := by simp [World.cell?, h3.hA, a0]
              have k1 : wr.cell? ⟨w.heap.size + 1 + 1, c * 2 + 1, none⟩ = some (.bool (usec c)) := by simp [World.cell?, h3.hA, a1]
              have hlA : w.heap.size + 5 < wr.heap.size := by omega
              have hlB : w.heap.size + 1 + 1 < wr.heap.size := by omega
              have hlC : w.heap.size < wr.heap.size := by omega
              have hm := hm8 c
              clear a0 a1
              obtain ⟨rR, kR⟩ := h3.refd c hc10
              -- the world when the use has been laid
              have kS : ∀ o1 o2, Kept (fun j => j = w.heap.size + 5) wr (((wr.setCell ⟨w.heap.size + 5, c, none⟩ (.bool true)).alloc o1).alloc o2) := fun o1 o2 =>
                ⟨rfl, rfl, rfl, by simp; omega, fun j hj hS => (Below.heap_alloc _ _ j (by simp; omega)).trans ((Below.heap_alloc _ _ j (by simpa using hj)).trans (kR.block j hj hS))⟩
              have hRS : ∀ o1 o2, ∃ rc, (((wr.setCell ⟨w.heap.size + 5, c, none⟩ (.bool true)).alloc o1).alloc o2).heap[w.heap.size + 5]? = some (.cells rc 57 (0, 0)) ∧ RefIs (touch rf c) rc := fun o1 o2 => by
                obtain ⟨rc, h1, h2⟩ := rR
                exact ⟨rc, (Below.heap_alloc _ _ _ (by simp; omega)).trans ((Below.heap_alloc _ _ _ (by simpa using hlA)).trans h1), h2⟩
              have hUS : ∀ o1, (((wr.setCell ⟨w.heap.size + 5, c, none⟩ (.bool true)).alloc o1).alloc (.cells #[.pointer (upt (w.heap.size + 1) c), .bool (usec c)] 50)).heap[wr.heap.size + 1]? = some (.cells #[.pointer (upt (w.heap.size + 1) c), .bool (usec c)] 50 (0, 0)) := fun o1 => by
                have := (MapKept.heap_alloc ((wr.setCell ⟨w.heap.size + 5, c, none⟩ (.bool true)).alloc o1) (.cells #[.pointer (upt (w.heap.size + 1) c), .bool (usec c)] 50)).1
                have e : ((wr.setCell ⟨w.heap.size + 5, c, none⟩ (.bool true)).alloc o1).heap.size = wr.heap.size + 1 := by simp
                rw [e] at this
                exact this
              clear rR kR
              have hXm : ∀ g, u11.ownBlock = some g → g < wr.heap.size := fun g hg => (h3.om.lt g hg).2
              cases e2 : m2 ms c
              · have t2 : ((ms c : Int) % 3 != 2) = true := by unfold m2 at e2; simp at e2 ⊢; omega
                have E2 : Hid (m2 ms c = false) := e2
                clear e2
                rcases hcs with ⟨hs, hc2⟩ | ⟨hs, hc2⟩
                all_goals
                  have HO : Hid _ := ob_eq hs (.int .u8 (pk k : Nat))
                  rw [hs] at d1
                  clear hs
                  go_wp2_with fail
                  rw [← HO.out]
                  generalize Obj.cells #[Value.int .u8 (pk k : Nat), Value.bool (sc k)] 46 = o1
                  have m2' := h3.mid c (hRS o1 (.cells #[.pointer (upt (w.heap.size + 1) c), .bool (usec c)] 50)) (kS o1 (.cells #[.pointer (upt (w.heap.size + 1) c), .bool (usec c)] 50))
                  have hU := hUS o1
                  generalize (((wr.setCell ⟨w.heap.size + 5, c, none⟩ (.bool true)).alloc o1).alloc (.cells #[.pointer (upt (w.heap.size + 1) c), .bool (usec c)] 50)) = w2 at m2' hU
                  have hgd := h3.gd
                  have hft := h3.ft
                  clear h3 hRS kS hUS d0 d1 r0 f0 mk k0 k1
                  obtain ⟨X, hX⟩ : ∃ X, X = wr.heap.size + 1 := ⟨_, rfl⟩
                  rw [← hX] at hU ⊢
                  have hXm' : ∀ g, u11.ownBlock = some g → g ≠ X := fun g hg => by have := hXm g hg; omega
                  clear hX hXm
                  obtain ⟨ma, mcp, rfl, hrow⟩ := row_of_owns m2'.om
                  refine (has_walk (w.heap.size + 1) c mcp us ma w2 (by omega) hrow).mono ?_
                  rintro e w3 ⟨rfl, hb3⟩
                  have k3 := Kept.of_below hb3
                  have s3 := m2'.kept k3
                  have hU3 := (k3.block X (lt_of_blk hU) (fun h => h)).trans hU
                  clear m2' k3 hb3 hrow hU
                  have x0 : w3.cell? ⟨X, 0, none⟩ = some (.pointer (upt (w.heap.size + 1) c)) := by simp [World.cell?, hU3]
                  have x1 : w3.cell? ⟨X, 1, none⟩ = some (.bool (usec c)) := by simp [World.cell?, hU3]
                  cases hh : has us c
                  · have hmh : Hid ((m2 ms c || has us c) = false) := by rw [Hid, E2.out, hh]; rfl
                    obtain ⟨i0, hi, hz0, hz1, hz2⟩ := info_parts Yba.info50
                    go_wp2_with (at_builtin; refine wpList_append2 rfl (.tmp 102) (.tmp 104) 42 rfl (w.heap.size + 6) 50 i0 (.agg #[.pointer none, .bool false]) 2 16 Yba.underlying42 hi hz0 hz1 hz2 rfl (by decide) _ us.length (cellsOf (w.heap.size + 1) us) rfl (s3.om.alloc _) ⟨w3.heap.size, 0, none⟩ 1 1 [.pointer (upt (w.heap.size + 1) c), .bool (usec c)] rfl rfl ?c1 ?c2 ?c3 ?c4 ?c5 (by decide) ?_)
                    case c1 => exact fun j x hj => new_cells2 w3 _ _ j x hj
                    case c2 =>
                      intro x hx
                      simp only [List.mem_cons, List.not_mem_nil, or_false] at hx
                      rcases hx with rfl | rfl <;> rfl
                    case c3 => unfold maxLen; omega
                    case c4 => omega
                    case c5 => have := s3.sz; simp; omega
                    intro g4 cap4 w4 ho4 hg4 hf4
                    have n4 := s3.append hg4 ho4 (by simpa using hf4)
                    have hU4 : w4.heap[X]? = _ := ((hg4.block X (by have := lt_of_blk hU3; simp; omega) (fun e => hXm' X e.symm rfl)).trans (Below.heap_alloc w3 _ X (lt_of_blk hU3))).trans hU3
                    clear x0 x1 s3 hg4 ho4 hf4
                    have x0 : w4.cell? ⟨X, 0, none⟩ = some (.pointer (upt (w.heap.size + 1) c)) := by simp [World.cell?, hU4]
                    have x1 : w4.cell? ⟨X, 1, none⟩ = some (.bool (usec c)) := by simp [World.cell?, hU4]
                    go_wp2_with fail
                    refine (refer_new (w.heap.size + 1) (w.heap.size + 3 + 1) (w.heap.size + 3) c (w.heap.size + 6) vt us l w4 n4.hD n4.hr (by rw [val_fit hgd hft c hc10, hmh.out]) n4.ot (fun e => by have := (n4.ot.lt _ e).1; omega) n4.sz (by omega)).mono ?_
                    rintro e w5 ⟨rfl, g5, cap5, q1, q2, q3, q4, q5⟩
                    have s5 := n4.refer hc10 hgd hft hmh.out q1 q2 q3 q4 q5
                    go_wp2_with fail
                    go_roundw
                    case rel =>
                      have L5 : (addP ms us c).length ≤ k + 1 := by rw [addP_new hmh.out]; simp; omega
                      first | exact ⟨k + 1, _, _, _, _, hlt3, by go_num, L5, s5⟩ | ((repeat apply Exists.intro); exact ⟨⟨k + 1, _, _, _, _, hlt3, by go_num, L5, s5⟩, rfl⟩)
                    case measure => simp [intOf]; omega
                  · have hmh : Hid ((m2 ms c || has us c) = true) := by rw [Hid, hh]; simp
                    go_wp2_with fail
                    refine (refer_seen (w.heap.size + 1) (w.heap.size + 3 + 1) (w.heap.size + 3) c vt l w3 s3.hD s3.hr (by rw [val_fit hgd hft c hc10, hmh.out])).mono ?_
                    rintro e w4 ⟨rfl, hb4⟩
                    have s4 := (s3.kept (Kept.of_below hb4)).seen hc10 hgd hft hmh.out
                    go_wp2_with fail
                    go_roundw
                    case rel =>
                      have L5 : (addP ms us c).length ≤ k + 1 := by rw [addP_seen hmh.out]; omega
                      first | exact ⟨k + 1, _, _, _, _, hlt3, by go_num, L5, s4⟩ | ((repeat apply Exists.intro); exact ⟨⟨k + 1, _, _, _, _, hlt3, by go_num, L5, s4⟩, rfl⟩)
                    case measure => simp [intOf]; omega
              · have t2 : ((ms c : Int) % 3 != 2) = false := by unfold m2 at e2; simp at e2 ⊢; omega
                have E2 : Hid (m2 ms c = true) := e2
                clear e2
                rcases hcs with ⟨hs, hc2⟩ | ⟨hs, hc2⟩
                all_goals
                  have HO : Hid _ := ob_eq hs (.int .u8 (pk k : Nat))
                  rw [hs] at d1
                  clear hs
                  go_wp2_with fail
                  rw [← HO.out]
                  generalize Obj.cells #[Value.int .u8 (pk k : Nat), Value.bool (sc k)] 46 = o1
                  have m2' := h3.mid c (hRS o1 (.cells #[.pointer (upt (w.heap.size + 1) c), .bool (usec c)] 50)) (kS o1 (.cells #[.pointer (upt (w.heap.size + 1) c), .bool (usec c)] 50))
                  have hU := hUS o1
                  generalize (((wr.setCell ⟨w.heap.size + 5, c, none⟩ (.bool true)).alloc o1).alloc (.cells #[.pointer (upt (w.heap.size + 1) c), .bool (usec c)] 50)) = w2 at m2' hU
                  have hgd := h3.gd
                  have hft := h3.ft
                  clear h3 hRS kS hUS d0 d1 r0 f0 mk k0 k1
                  obtain ⟨X, hX⟩ : ∃ X, X = wr.heap.size + 1 := ⟨_, rfl⟩
                  rw [← hX] at hU ⊢
                  have hXm' : ∀ g, u11.ownBlock = some g → g ≠ X := fun g hg => by have := hXm g hg; omega
                  clear hX hXm
                  have hmh : Hid ((m2 ms c || has us c) = true) := by rw [Hid, E2.out]; simp
                  clear hU
                  refine (refer_seen (w.heap.size + 1) (w.heap.size + 3 + 1) (w.heap.size + 3) c vt l w2 m2'.hD m2'.hr (by rw [val_fit hgd hft c hc10, hmh.out])).mono ?_
                  rintro e w4 ⟨rfl, hb4⟩
                  have s4 := (m2'.kept (Kept.of_below hb4)).seen hc10 hgd hft hmh.out
                  go_wp2_with fail
                  go_roundw
                  case rel =>
                      have L5 : (addP ms us c).length ≤ k + 1 := by rw [addP_seen hmh.out]; omega
                      first | exact ⟨k + 1, _, _, _, _, hlt3, by go_num, L5, s4⟩ | ((repeat apply Exists.intro); exact ⟨⟨k + 1, _, _, _, _, hlt3, by go_num, L5, s4⟩, rfl⟩)
                  case measure => simp [intOf]; omega
            · obtain rfl : k = n := by omega
              clear ha hbl hc hpk
              have hD0 : wr.cell? ⟨w.heap.size + 3 + 1, 0, none⟩ = some (.map (some (w.heap.size + 3))) := by simp [World.cell?, h3.hD]
              have hD1 : wr.cell? ⟨w.heap.size + 3 + 1, 1, none⟩ = some vt := by simp [World.cell?, h3.hD]
              obtain ⟨ta, tc, rfl, htrow⟩ := row_of_owns h3.ot
              obtain ⟨ma, mcp, rfl, hmrow⟩ := row_of_owns h3.om
              go_wp2_with fail
              clear hD0 hD1 htrow hmrow
              go_loopw [123] (fun i wq => ∃ j : Nat, j ≤ us.length ∧ i = .int .i64 j ∧ L3 w mc ac ms rf us l (.slice ta us.length tc) (.slice ma us.length mcp) wq) (fun i _ => us.length - (intOf i).toNat)
              case atStart => exact ⟨0, Nat.zero_le _, rfl, h3⟩
              case round =>
                clear h3
                obtain ⟨j, hj, rfl, h3⟩ := hrel
                by_cases hjl : j < us.length
                · have hjI : (j : Int) < (us.length : Int) := by omega
                  have hD1 : wr.cell? ⟨w.heap.size + 3 + 1, 1, none⟩ = some (.slice ta us.length tc) := by simp [World.cell?, h3.hD]
                  obtain ⟨ta', tc', et, htrow⟩ := row_of_owns h3.ot
                  obtain ⟨ma', mc', em, hmrow⟩ := row_of_owns h3.om
                  simp only [Value.slice.injEq, true_and] at et em
                  obtain ⟨rfl, rfl⟩ := et
                  obtain ⟨rfl, rfl⟩ := em
                  obtain ⟨tg, rfl, htl, htc⟩ : ∃ g, ta = some ⟨g, 0, none⟩ ∧ g < wr.heap.size ∧ _ := htrow.resolve_left (fun e => by rw [e] at hjl; simp at hjl)
                  obtain ⟨mg, rfl, hml, hmc2⟩ : ∃ g, ma = some ⟨g, 0, none⟩ ∧ g < wr.heap.size ∧ _ := hmrow.resolve_left (fun e => by rw [e] at hjl; simp at hjl)
                  obtain ⟨t0, t1⟩ := htc j hjl
                  obtain ⟨q0, q1⟩ := hmc2 j hjl
                  clear htc hmc2 htrow hmrow
                  generalize us.getD j 0 = u at *
                  have hsz := h3.sz
                  have hDlt : w.heap.size + 3 + 1 < wr.heap.size := by omega
                  have heq : ∀ w', (Op.equalIn 9999 34 (.pointer (upt (w.heap.size + 1) u)) (.pointer (upt (w.heap.size + 1) u))).run Yba.prog w' = .ok true w' := fun w' => by
                    have := eq_ptr (w.heap.size + 1) u u 9998 w'
                    simpa using this
                  go_wp2_with fail
                  go_quiet (fail)
                  go_wp2_with fail
                  go_roundw
                  case rel => exact ⟨j + 1, by omega, by go_num, h3.kept (Kept.of_below (((Below.refl _ _).alloc (Nat.le_refl _) _).trans ⟨rfl, rfl, rfl, Nat.le_refl _, fun _ _ => rfl⟩))⟩
                  case measure => simp [intOf]; omega
                · go_wp2_with fail
                  go_loopw [19, 20] (fun c i wq => ∃ j : Nat, j ≤ 10 ∧ i = .int .i64 j ∧ c = .int .i64 (cnt (fun k => m1 ms k || m2 ms k || rf k) j : Nat) ∧ L3 w mc ac ms rf us l (.slice ta us.length tc) (.slice ma us.length mcp) wq) (fun _ i _ => 10 - (intOf i).toNat)
                  case atStart => exact ⟨0, by omega, rfl, rfl, h3⟩
                  case round =>
                    clear h3
                    obtain ⟨j, hj5, rfl, rfl, h3⟩ := hrel
                    have hcl := cnt_le (fun k => m1 ms k || m2 ms k || rf k) j
                    by_cases hj10 : j < 10
                    · obtain ⟨rc, hR, hRi⟩ := h3.hR
                      obtain ⟨a0, a1⟩ := hAc.2 j hj10
                      have hsz := h3.sz
                      have d0 : wr.cell? ⟨w.heap.size + 3 + 1, 0, none⟩ = some (.map (some (w.heap.size + 3))) := by simp [World.cell?, h3.hD]
                      have k0 : wr.cell? ⟨w.heap.size + 1 + 1, j * 2, none⟩ = some (.pointer (upt (w.heap.size + 1) j)) := by simp [World.cell?, h3.hA, a0]
                      have k1 : wr.cell? ⟨w.heap.size + 1 + 1, j * 2 + 1, none⟩ = some (.bool (usec j)) := by simp [World.cell?, h3.hA, a1]
                      have mk : wr.cell? ⟨w.heap.size, j, none⟩ = some (.int .u8 (ms j)) := by simp [World.cell?, h3.hM, hmc j hj10]
                      have rk : wr.cell? ⟨w.heap.size + 5, j, none⟩ = some (.bool (rf j)) := by simp [World.cell?, hR, hRi.2 j hj10]
                      have hm := hm8 j
                      have hlk : ∀ n, (Instr.lookup 41 (.map (some (w.heap.size + 3))) (uv (w.heap.size + 1) j) true).run Yba.prog (wr.drewN n) = .ok (.tuple #[.bool (m2 ms j || rf j), .bool (m1 ms j || m2 ms j || rf j)]) (wr.drewN n) := fun n => by
                        rw [look_ok_run (w.heap.size + 1) j (w.heap.size + 3) l (wr.drewN n) h3.hr, h3.gd.val j hj10, h3.gd.some j hj10]
                      unfold uv at hlk
                      have HC : Hid (cnt (fun k => m1 ms k || m2 ms k || rf k) (j + 1) = cnt (fun k => m1 ms k || m2 ms k || rf k) j + if (m1 ms j || m2 ms j || rf j) then 1 else 0) := rfl
                      generalize cnt (fun k => m1 ms k || m2 ms k || rf k) j = cj at *
                      clear a0 a1 hR hRi
                      have hk3 : ∀ n, L3 w mc ac ms rf us l (.slice ta us.length tc) (.slice ma us.length mcp) (wr.drewN n) := fun n => h3.kept (Kept.of_below ⟨rfl, rfl, rfl, Nat.le_refl _, fun _ _ => rfl⟩)
                      cases er : rf j
                      · rw [er] at rk
                        cases e2 : m2 ms j
                        · cases e1 : m1 ms j
                          · have t1 : ((ms j : Int) % 3 == 1) = false := by unfold m1 at e1; simp at e1 ⊢; omega
                            have t2 : ((ms j : Int) % 3 == 2) = false := by unfold m2 at e2; simp at e2 ⊢; omega
                            have HC' : Hid (cnt (fun k => m1 ms k || m2 ms k || rf k) (j + 1) = cj) := cnt_no HC.out (by rw [er, e2, e1]; rfl)
                            rw [er, e2, e1] at hlk
                            simp only [Bool.or_self] at hlk
                            clear er e2 e1 HC
                            go_wp2_with fail
                            go_quiet (fail)
                            go_wp2_with fail
                            go_roundw
                            case rel => first | exact ⟨j + 1, hj10, by go_num, by rw [HC'.out], hk3 _⟩ | ((repeat apply Exists.intro); exact ⟨⟨j + 1, hj10, by go_num, by rw [HC'.out], hk3 _⟩, rfl⟩)
                            case measure => simp [intOf]; omega
                          · have t1 : ((ms j : Int) % 3 == 1) = true := by unfold m1 at e1; simp at e1 ⊢; omega
                            have t2 : ((ms j : Int) % 3 == 2) = false := by unfold m2 at e2; simp at e2 ⊢; omega
                            have HC' : Hid (cnt (fun k => m1 ms k || m2 ms k || rf k) (j + 1) = cj + 1) := cnt_yes HC.out (by rw [er, e2, e1]; rfl)
                            rw [er, e2, e1] at hlk
                            simp only [Bool.or_self, Bool.or_false] at hlk
                            clear er e2 e1 HC
                            go_wp2_with fail
                            go_quiet (fail)
                            go_wp2_with fail
                            go_roundw
                            case rel => first | exact ⟨j + 1, hj10, by go_num, by rw [HC'.out]; go_num, hk3 _⟩ | ((repeat apply Exists.intro); exact ⟨⟨j + 1, hj10, by go_num, by rw [HC'.out]; go_num, hk3 _⟩, rfl⟩)
                            case measure => simp [intOf]; omega
                        · have t2 : ((ms j : Int) % 3 == 2) = true := by unfold m2 at e2; simp at e2 ⊢; omega
                          have HC' : Hid (cnt (fun k => m1 ms k || m2 ms k || rf k) (j + 1) = cj + 1) := cnt_yes HC.out (by rw [er, e2]; simp)
                          rw [er, e2] at hlk
                          simp only [Bool.or_true, Bool.true_or] at hlk
                          clear er e2 HC
                          go_wp2_with fail
                          go_quiet (fail)
                          go_wp2_with fail
                          go_roundw
                          case rel => first | exact ⟨j + 1, hj10, by go_num, by rw [HC'.out]; go_num, hk3 _⟩ | ((repeat apply Exists.intro); exact ⟨⟨j + 1, hj10, by go_num, by rw [HC'.out]; go_num, hk3 _⟩, rfl⟩)
                          case measure => simp [intOf]; omega
                      · rw [er] at rk
                        have HC' : Hid (cnt (fun k => m1 ms k || m2 ms k || rf k) (j + 1) = cj + 1) := cnt_yes HC.out (by rw [er]; simp)
                        rw [er] at hlk
                        simp only [Bool.or_true] at hlk
                        clear er HC
                        go_wp2_with fail
                        go_quiet (fail)
                        go_wp2_with fail
                        go_roundw
                        case rel => first | exact ⟨j + 1, hj10, by go_num, by rw [HC'.out]; go_num, hk3 _⟩ | ((repeat apply Exists.intro); exact ⟨⟨j + 1, hj10, by go_num, by rw [HC'.out]; go_num, hk3 _⟩, rfl⟩)
                        case measure => simp [intOf]; omega
                    · obtain rfl : j = 10 := by omega
                      have hlen := len_run h3.hr
                      rw [h3.gd.len] at hlen
                      have d0 : wr.cell? ⟨w.heap.size + 3 + 1, 0, none⟩ = some (.map (some (w.heap.size + 3))) := by simp [World.cell?, h3.hD]
                      generalize cnt (fun k => m1 ms k || m2 ms k || rf k) 10 = cj at *
                      go_wp2_with fail
                      go_ret
                      exact ⟨rfl, h3.hb⟩

set_option maxRecDepth 100000 in
theorem pre_long (mc : Array Value) (a : Option Addr) (n cap : Nat) (w : World) (hn : 1024 < n) :
    Calls Yba.prog 4 #[.agg mc, .slice a n cap] w fun e w' => e = .returned (.bool true) ∧ Below w.heap.size w w' := by
  have hd : decide ((1024 : Int) < (n : Int)) = true := by simp; omega
  go_enter Yba.func4, Yba.ntmps4
  go_wp2_with fail
  go_ret
  exact ⟨rfl, (Below.refl _ _).alloc (Nat.le_refl _) _⟩
end Go.Proofs.Ybulkckuw
