import Derived.Test.YbulkckuwState
namespace Go.Proofs.Ybulkckuw
open Go.RowKit

set_option maxHeartbeats 2000000 in
set_option maxRecDepth 100000 in
theorem script_walk (a : Option Addr) (b off n cap : Nat) (pk : Nat → Nat) (sc : Nat → Bool) (w : World) (hn : n ≤ 1024) (ha : Hid (n = 0 ∨ a = some ⟨b, off, none⟩)) (hbl : 0 < n → b < w.heap.size) (hpk : ∀ i, pk i < 256)
    (hc : ∀ i, i < n → w.cell? ⟨b, off + i * 2, none⟩ = some (.int .u8 (pk i)) ∧ w.cell? ⟨b, off + i * 2 + 1, none⟩ = some (.bool (sc i))) :
    Calls Yba.prog 3 #[.slice a n cap] w fun e w' => e = .returned (.bool true) ∧ Below w.heap.size w w' := by
  have hd : decide ((1024 : Int) < (n : Int)) = false := by simp; omega
  have hmm := @run_makeMap Yba.prog
  have hz39 := zero39
  go_enter Yba.func3, Yba.ntmps3
  obtain ⟨cs, hcs⟩ : ∃ cs, cs = (List.range n).map (fun i => code (pk i) (sc i)) := ⟨_, rfl⟩
  have hcl : cs.length = n := by rw [hcs]; simp
  have hcg : ∀ k, k < n → cs.getD k 0 = code (pk k) (sc k) := fun k hk => by rw [hcs]; simp [hk]
  have HL : Hid (cs.length = n) := hcl
  have HG : Hid (∀ k, k < n → cs.getD k 0 = code (pk k) (sc k)) := hcg
  clear hcs hcl hcg
  go_wp2_with fail
  go_loopw [5, 21] (fun vm i wr => ∃ (k : Nat) (vt : Value), k ≤ n ∧ i = .int .i64 k ∧ St w w.heap.size (w.heap.size + 1) (w.heap.size + 1 + 1) (firsts (cs.take k)) vt vm wr) (fun _ i _ => n - (intOf i).toNat)
  case atStart =>
    refine ⟨0, .slice none 0 0, Nat.zero_le _, rfl, ?_⟩
    exact st0 w
  case round =>
    obtain ⟨k, vt, hk, rfl, hst⟩ := hrel
    by_cases hlt : k < n
    · have hltI : (k : Int) < (n : Int) := by omega
      obtain rfl : a = some ⟨b, off, none⟩ := ha.out.resolve_left (by omega)
      replace hbl := hbl (by omega)
      clear ha
      obtain ⟨c0, c1⟩ := hc k hlt
      have d0 := (hst.hb.cell (p := ⟨b, off + k * 2, none⟩) hbl).trans c0
      have d1 := (hst.hb.cell (p := ⟨b, off + k * 2 + 1, none⟩) hbl).trans c1
      clear c0 c1
      have hp := hpk k
      go_wp2_with fail
      go_cut [8] (fun p wc => p = .pointer (some ⟨wr.heap.size + 1, 0, none⟩) ∧ wc = ((wr.alloc (.cells #[.int .u8 (pk k), .bool (sc k)] 46)).alloc (.cells #[.pointer (upt w.heap.size (code (pk k) (sc k))), .bool (sc k)] 50)).drew)
      case first =>
        go_region_with (go_at_call 5; refine (ptr_code w.heap.size (pk k) (sc k) hp _).mono ?_; rintro e w' ⟨rfl, rfl⟩)
        all_goals
          go_wp2_with fail
          go_meet
          exact ⟨rfl, rfl⟩
      case rest =>
        obtain ⟨rfl, rfl⟩ := hcut
        have hsz := hst.sz
        have huc := HG.out k hlt
        have hsu := code_sec (pk k) (sc k)
        have HU : Hid (firsts (cs.take (k + 1)) = add (firsts (cs.take k)) (cs.getD k 0)) := firsts_succ cs k (by rw [HL.out]; exact hlt)
        rw [huc] at HU
        have hul := firsts_len cs k
        generalize code (pk k) (sc k) = u at *
        generalize firsts (cs.take k) = us at *
        have k1 : Kept (fun _ => False) wr (((wr.alloc (.cells #[.int .u8 (pk k), .bool (sc k)] 46)).alloc (.cells #[.pointer (upt w.heap.size u), .bool (sc k)] 50)).drew) :=
          Kept.of_below (((Below.refl _ _).alloc (Nat.le_refl _) _).alloc (by simp) _).drew
        have hU : (((wr.alloc (.cells #[.int .u8 (pk k), .bool (sc k)] 46)).alloc (.cells #[.pointer (upt w.heap.size u), .bool (sc k)] 50)).drew).heap[wr.heap.size + 1]? = some (.cells #[.pointer (upt w.heap.size u), .bool (sc k)] 50 (0, 0)) := by
          have := (MapKept.heap_alloc (wr.alloc (.cells #[.int .u8 (pk k), .bool (sc k)] 46)) (.cells #[.pointer (upt w.heap.size u), .bool (sc k)] 50)).1
          rw [World.size_alloc] at this
          exact this
        have s2 := hst.kept k1
        have hXm : ∀ g, u5.ownBlock = some g → g < wr.heap.size := fun g hg => (hst.om.lt g hg).2
        generalize ((wr.alloc (.cells #[.int .u8 (pk k), .bool (sc k)] 46)).alloc (.cells #[.pointer (upt w.heap.size u), .bool (sc k)] 50)).drew = w2 at k1 hU s2
        rw [← hsu] at hU
        obtain ⟨X, hX⟩ : ∃ X, X = wr.heap.size + 1 := ⟨_, rfl⟩
        rw [← hX] at hU ⊢
        have hXm' : ∀ g, u5.ownBlock = some g → g ≠ X := fun g hg => by have := hXm g hg; omega
        have hXb : w.heap.size + 3 ≤ X := by omega
        clear hX hXm k1 hst d0 d1 hsu huc hc
        obtain ⟨ma, mc, rfl, hrow⟩ := row_of_owns s2.om
        have x0 : w2.cell? ⟨X, 0, none⟩ = some (.pointer (upt w.heap.size u)) := by simp [World.cell?, hU]
        have x1 : w2.cell? ⟨X, 1, none⟩ = some (.bool (usec u)) := by simp [World.cell?, hU]
        go_wp2_with fail
        refine (has_walk w.heap.size u mc us ma w2 (by omega) hrow).mono ?_
        rintro e w3 ⟨rfl, hb3⟩
        have k3 := Kept.of_below hb3
        have s3 := s2.kept k3
        have hU3 := (k3.block X (lt_of_blk hU) (fun h => h)).trans hU
        clear s2 k3 hb3 hrow x0 x1 hU
        have x0 : w3.cell? ⟨X, 0, none⟩ = some (.pointer (upt w.heap.size u)) := by simp [World.cell?, hU3]
        have x1 : w3.cell? ⟨X, 1, none⟩ = some (.bool (usec u)) := by simp [World.cell?, hU3]
        by_cases hh : has us u = true
        · go_wp2_with fail
          refine (refer_seen w.heap.size (w.heap.size + 1 + 1) (w.heap.size + 1) u vt (marks us) w3 s3.hD s3.hr (by rw [val_marks, hh])).mono ?_
          rintro e w4 ⟨rfl, hb4⟩
          have s4 := s3.kept (Kept.of_below hb4)
          go_wp2_with fail
          go_roundw
          case rel => exact ⟨k + 1, vt, by omega, by go_num, by rw [HU.out, add_seen hh]; exact s4⟩
          case measure => simp [intOf]; omega
        · have hh' : has us u = false := by simpa using hh
          clear hh
          obtain ⟨i0, hi, hz0, hz1, hz2⟩ := info_parts Yba.info50
          go_wp2_with (at_builtin; refine wpList_append2 rfl (.tmp 35) (.tmp 37) 42 rfl (w.heap.size + 3) 50 i0 (.agg #[.pointer none, .bool false]) 2 16 Yba.underlying42 hi hz0 hz1 hz2 rfl (by decide) _ us.length (cellsOf w.heap.size us) rfl (s3.om.alloc _) ⟨w3.heap.size, 0, none⟩ 1 1 [.pointer (upt w.heap.size u), .bool (usec u)] rfl rfl ?c1 ?c2 ?c3 ?c4 ?c5 (by decide) ?_)
          case c1 => exact fun j x hj => new_cells2 w3 _ _ j x hj
          case c2 =>
            intro x hx
            simp only [List.mem_cons, List.not_mem_nil, or_false] at hx
            rcases hx with rfl | rfl <;> rfl
          case c3 => unfold maxLen; omega
          case c4 => omega
          case c5 => have := s3.sz; simp; omega
          intro g4 cap4 w4 ho4 hg4 hf4
          have m4 := after_append (u := u) s3 (by omega) (by omega) hg4 ho4 (by simpa using hf4)
          have hU4 : w4.heap[X]? = _ := ((hg4.block X (by have := lt_of_blk hU3; simp; omega) (fun e => hXm' X e.symm rfl)).trans (Below.heap_alloc w3 _ X (lt_of_blk hU3))).trans hU3
          clear x0 x1 s3 hg4 ho4 hf4
          have x0 : w4.cell? ⟨X, 0, none⟩ = some (.pointer (upt w.heap.size u)) := by simp [World.cell?, hU4]
          have x1 : w4.cell? ⟨X, 1, none⟩ = some (.bool (usec u)) := by simp [World.cell?, hU4]
          go_wp2_with fail
          refine (refer_new w.heap.size (w.heap.size + 1 + 1) (w.heap.size + 1) u (w.heap.size + 3) vt us (marks us) w4 m4.hD m4.hr (by rw [val_marks, hh']) m4.ot (fun e => by have := (m4.ot.lt _ e).1; omega) m4.sz (by omega)).mono ?_
          rintro e w5 ⟨rfl, g5, cap5, q1, q2, q3, q4, q5⟩
          have s5 := after_refer m4 (by omega) (by omega) (by omega) (by omega) hh' q1 q2 q3 q4 q5
          go_wp2_with fail
          go_roundw
          case rel => exact ⟨k + 1, _, by omega, by go_num, by rw [HU.out, add_new hh']; exact s5⟩
          case measure => simp [intOf]; omega
    · obtain rfl : k = n := by omega
      have hul := firsts_len cs k
      generalize firsts (cs.take k) = us at *
      clear HL HG hc ha hbl
      have hD0 : wr.cell? ⟨w.heap.size + 1 + 1, 0, none⟩ = some (.map (some (w.heap.size + 1))) := by simp [World.cell?, hst.hD]
      have hD1 : wr.cell? ⟨w.heap.size + 1 + 1, 1, none⟩ = some vt := by simp [World.cell?, hst.hD]
      obtain ⟨ta, tc, rfl, htrow⟩ := row_of_owns hst.ot
      obtain ⟨ma, mc, rfl, hmrow⟩ := row_of_owns hst.om
      have hlen := len_run hst.hr
      have hml : (marks us).length = us.length := by simp [marks]
      rw [hml] at hlen
      clear hml
      go_wp2_with fail
      clear hlen hD0 hD1 htrow hmrow
      go_loopw [66] (fun i wq => ∃ j : Nat, j ≤ us.length ∧ i = .int .i64 j ∧ St w w.heap.size (w.heap.size + 1) (w.heap.size + 1 + 1) us (.slice ta us.length tc) (.slice ma us.length mc) wq) (fun i _ => us.length - (intOf i).toNat)
      case atStart => exact ⟨0, Nat.zero_le _, rfl, hst⟩
      case round =>
        clear hst
        obtain ⟨j, hj, rfl, hst⟩ := hrel
        by_cases hjl : j < us.length
        · have hjI : (j : Int) < (us.length : Int) := by omega
          have hD0 : wr.cell? ⟨w.heap.size + 1 + 1, 0, none⟩ = some (.map (some (w.heap.size + 1))) := by simp [World.cell?, hst.hD]
          have hD1 : wr.cell? ⟨w.heap.size + 1 + 1, 1, none⟩ = some (.slice ta us.length tc) := by simp [World.cell?, hst.hD]
          obtain ⟨ta', tc', et, htrow⟩ := row_of_owns hst.ot
          obtain ⟨ma', mc', em, hmrow⟩ := row_of_owns hst.om
          simp only [Value.slice.injEq, true_and] at et em
          obtain ⟨rfl, rfl⟩ := et
          obtain ⟨rfl, rfl⟩ := em
          obtain ⟨tg, rfl, htl, htc⟩ : ∃ g, ta = some ⟨g, 0, none⟩ ∧ g < wr.heap.size ∧ _ := htrow.resolve_left (fun e => by rw [e] at hjl; simp at hjl)
          obtain ⟨mg, rfl, hml, hmc⟩ : ∃ g, ma = some ⟨g, 0, none⟩ ∧ g < wr.heap.size ∧ _ := hmrow.resolve_left (fun e => by rw [e] at hjl; simp at hjl)
          obtain ⟨t0, t1⟩ := htc j hjl
          obtain ⟨m0, m1⟩ := hmc j hjl
          clear htc hmc htrow hmrow
          have hhas := has_get us j hjl
          generalize us.getD j 0 = u at *
          have hsz := hst.sz
          have hDlt : w.heap.size + 1 + 1 < wr.heap.size := by omega
          have heq : ∀ w', (Op.equalIn 9999 34 (.pointer (upt w.heap.size u)) (.pointer (upt w.heap.size u))).run Yba.prog w' = .ok true w' := fun w' => by
            have := eq_ptr w.heap.size u u 9998 w'
            simpa using this
          have hlk : ∀ o n, (Instr.lookup 41 (.map (some (w.heap.size + 1))) (uv w.heap.size u) true).run Yba.prog ((wr.alloc o).drewN n) = .ok (.tuple #[.bool true, .bool true]) ((wr.alloc o).drewN n) := fun o n => by
            rw [look_ok_run w.heap.size u (w.heap.size + 1) (marks us) ((wr.alloc o).drewN n) ((Below.heap_alloc wr o _ (lt_of_blk hst.hr)).trans hst.hr), val_marks, some_marks, hhas]
          unfold uv at hlk
          have HH : Hid (has us u = true) := hhas
          clear hhas
          go_wp2_with fail
          go_quiet (fail)
          go_wp2_with fail
          have hlk2 := fun o a => look_ok_run w.heap.size u (w.heap.size + 1) (marks us) (((wr.alloc o).drewN nq).drewN a) ((Below.heap_alloc wr o _ (lt_of_blk hst.hr)).trans hst.hr)
          rw [val_marks, some_marks, HH.out] at hlk2
          unfold uv at hlk2
          go_quiet (fail)
          go_wp2_with fail
          go_roundw
          case rel => exact ⟨j + 1, by omega, by go_num, hst.kept (Kept.of_below (((Below.refl _ _).alloc (Nat.le_refl _) _).trans ⟨rfl, rfl, rfl, Nat.le_refl _, fun _ _ => rfl⟩))⟩
          case measure => simp [intOf]; omega
        · go_wp2_with fail
          go_ret
          exact ⟨rfl, hst.hb⟩

theorem script_long (a : Option Addr) (n cap : Nat) (w : World) (hn : 1024 < n) :
    Calls Yba.prog 3 #[.slice a n cap] w fun e w' => e = .returned (.bool true) ∧ Below w.heap.size w w' := by
  have hd : decide ((1024 : Int) < (n : Int)) = true := by simp; omega
  go_enter Yba.func3, Yba.ntmps3
  go_wp2_with fail
  go_ret
  exact ⟨rfl, Below.refl _ _⟩
end Go.Proofs.Ybulkckuw
