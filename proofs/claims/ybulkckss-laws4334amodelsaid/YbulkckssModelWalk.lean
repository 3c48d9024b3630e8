import Derived.Test.YbulkckssSetBitWalk
import Derived.Laws.CopyOwn
import Derived.Deep.QuietTactic
import Derived.BigQuiet
namespace Go.Proofs.Ybulkckss
open Go.RowKit

theorem splice_whole {α : Type} (cur cs : List α) (h : cs.length = cur.length) : splice cur 0 cs = cs := by
  unfold splice
  rw [List.drop_eq_nil_of_le (by omega)]
  simp

theorem blk_new (w : World) (o : Obj) : (w.alloc o).heap[w.heap.size]? = some o := (MapKept.heap_alloc w o).1

theorem cells_of_ints {w : World} {g len : Nat} {zs : List Int} (hl : len ≤ zs.length)
    (h : w.heap[g]? = some (.cells ((zs.take len).map (Value.int .u64)).toArray 23 (0, 0))) :
    ∀ i, i < len → w.cell? ⟨g, 0 + i, none⟩ = some (.int .u64 (zs.getD i 0)) := by
  intro i hi
  have h2 : i < zs.length := by omega
  simp [World.cell?, h, h2, hi]

set_option maxHeartbeats 800000 in
theorem model_walk (b off len cap : Nat) (zs : List Int) (w : World) (hlen : len ≤ 4096) (hlc : len ≤ cap) (hz : zs.length = cap) (hb : b < w.heap.size) (h0 : 0 < len)
    (hc : ∀ i, i < len → w.cell? ⟨b, off + i, none⟩ = some (.int .u64 (zs.getD i 0))) :
    Calls Yba.prog 3 #[.slice (some ⟨b, off, none⟩) len cap] w fun e w' => e = .returned (.bool true) ∧ Below w.heap.size w w' := by
  have hmk := run_make_row' (P := Yba.prog) 22 23 (.int .u64 0) 8 Yba.underlying22 Yba.info23 rfl .i64 .i64 len (by omega) (by omega) w
  have hb0 : Below w.heap.size w (w.alloc (.cells (madeCells #[.int .u64 0] len) 23)) := (Below.refl _ _).alloc (Nat.le_refl _) _
  have hg0 : (w.alloc (.cells (madeCells #[.int .u64 0] len) 23)).heap[w.heap.size]? = some (.cells ((madeCells #[.int .u64 0] len).toList).toArray 23 (0, 0)) := by
    rw [Array.toArray_toList]; exact blk_new _ _
  have hcl : (madeCells #[Value.int .u64 0] len).toList.length = len := by simp [size_madeCells]
  generalize hcur : (madeCells #[Value.int .u64 0] len).toList = cur at hg0 hcl
  clear hcur
  generalize hw1 : w.alloc (.cells (madeCells #[.int .u64 0] len) 23) = w1 at hb0 hg0 hmk
  clear hw1
  have hcs : ((zs.take len).map (Value.int .u64)).length = len := by simp; omega
  have hcp := run_copy_row (P := Yba.prog) w1 22 22 3 23 w.heap.size 0 len len ⟨b, off, none⟩ len cap cur.toArray 23 ((zs.take len).map (Value.int .u64)) Yba.underlying22 (by kernel_rfl) hg0 (by rw [hcs]; simp)
    (by
      intro j v hj
      rw [List.getElem?_map] at hj
      have hjl : j < len := by
        obtain ⟨x, hx, _⟩ := Option.map_eq_some_iff.1 hj
        have := (List.getElem?_eq_some_iff.1 hx).1
        simp at this; omega
      have e1 : (zs.take len)[j]? = some (zs.getD j 0) := by
        rw [List.getElem?_take_of_lt hjl, List.getD_eq_getElem?_getD, List.getElem?_eq_getElem (by omega)]; rfl
      rw [e1] at hj
      simp at hj
      subst hj
      have : (⟨b, off, none⟩ : Addr).add j = ⟨b, off + j, none⟩ := by simp [Addr.add]
      rw [this, hb0.cell (by exact hb), hc j hjl, List.getD_eq_getElem?_getD])
    (by simp [hcl]; omega) (by intro v hv; obtain ⟨a, _, rfl⟩ := List.mem_map.1 hv; rfl)
  have hg1 := setRow_heap w1 w.heap.size _ (((cur.toArray.toList).take 0 ++ (zs.take len).map (Value.int .u64) ++ (cur.toArray.toList).drop (0 + ((zs.take len).map (Value.int .u64)).length)).toArray) 23 _ hg0
  have hb1 := below_setRow hb0 (Nat.le_refl w.heap.size) (((cur.toArray.toList).take 0 ++ (zs.take len).map (Value.int .u64) ++ (cur.toArray.toList).drop (0 + ((zs.take len).map (Value.int .u64)).length)).toArray)
  generalize w1.setRow w.heap.size (((cur.toArray.toList).take 0 ++ (zs.take len).map (Value.int .u64) ++ (cur.toArray.toList).drop (0 + ((zs.take len).map (Value.int .u64)).length)).toArray) = w2 at hcp hg1 hb1
  rw [hcs] at hg1 hcp
  have hcd : cur.toArray.toList.drop (0 + len) = [] := by simp; omega
  rw [hcd] at hg1
  simp only [List.take_zero, List.nil_append, List.append_nil] at hg1
  have hc2 := cells_of_ints (by omega) hg1
  have hca : ∀ i, i < len → w2.cell? ⟨b, off + i, none⟩ = some (.int .u64 (zs.getD i 0)) := fun i hi => (hb1.cell (by exact hb)).trans (hc i hi)
  clear hg1 hcs hcd hg0 hb0 hcl
  have hlz : len ≤ zs.length := by omega
  clear hz hlc
  have hd : decide ((4096 : Int) < (len : Int)) = false := by simp; omega
  go_enter Yba.func3, Yba.ntmps3
  go_wp2_with fail
  go_loop [4, 5] (fun v i => ∃ k : Nat, k ≤ len ∧ i = .int .i64 k ∧ v = .bool (allZ (zs.take k))) (fun _ i => len - (intOf i).toNat)
  case atStart => exact ⟨0, Nat.zero_le _, rfl, rfl⟩
  case round =>
    obtain ⟨k, hk, rfl, rfl⟩ := hrel
    by_cases hlt : k < len
    · have hcell := hc2 k hlt
      rw [Nat.zero_add] at hcell
      have HS : Hid (allZ (zs.take (k + 1)) = (allZ (zs.take k) && (zs[k]?.getD 0 == 0))) := allZ_take_succ zs k (by omega)
      by_cases hne : (zs[k]?.getD 0 != 0) = true
      · go_wp2_with fail
        go_round
        case rel => exact ⟨k + 1, by omega, by go_num, by rw [HS.out]; simp at hne; simp [hne]⟩
        case measure => simp [intOf]; omega
      · have hne' : (zs[k]?.getD 0 != 0) = false := by simpa using hne
        go_wp2_with fail
        go_round
        case rel => exact ⟨k + 1, by omega, by go_num, by rw [HS.out]; simp at hne; simp [hne]⟩
        case measure => simp [intOf]; omega
    · obtain rfl : k = len := by omega
      generalize hA : allZ (zs.take k) = A
      have HA := show Hid _ from hA
      clear hA
      go_wp2_with fail
      refine (isEmpty_any w.heap.size 0 k k zs w2 hlz (by omega) hc2).mono ?_
      rw [HA.out]
      rintro e w' ⟨rfl, rfl⟩
      go_wp2_with fail
      go_loopw [7] (fun i wr => ∃ j : Nat, j ≤ k ∧ i = .int .i64 j ∧ (∀ i, i < k → wr.cell? ⟨b, off + i, none⟩ = some (.int .u64 (zs.getD i 0))) ∧ (∀ i, i < k → wr.cell? ⟨w.heap.size, 0 + i, none⟩ = some (.int .u64 (zs.getD i 0))) ∧ Below w.heap.size w wr) (fun i _ => k - (intOf i).toNat)
      case atStart => exact ⟨0, Nat.zero_le _, rfl, hca, hc2, hb1⟩
      case round =>
        obtain ⟨j, hj, rfl, ga, gc, gb⟩ := hrel
        by_cases hjk : j < k
        · have g1 := ga j hjk
          have g2 := gc j hjk
          rw [Nat.zero_add] at g2
          have hjI : (j : Int) < (k : Int) := by omega
          go_wp2_with fail
          go_quiet (fail)
          go_wp2_with fail
          go_roundw
          case rel => exact ⟨j + 1, by omega, by go_num, ga, gc, gb.trans ⟨rfl, rfl, rfl, Nat.le_refl _, fun _ _ => rfl⟩⟩
          case measure => simp [intOf]; omega
        · go_wp2_with fail
          go_ret
          exact ⟨rfl, gb⟩

/-- more than 4096 words: true at once. -/
theorem model_long (a : Option Addr) (len cap : Nat) (w : World) (hlen : 4096 < len) :
    Calls Yba.prog 3 #[.slice a len cap] w fun e w' => e = .returned (.bool true) ∧ Below w.heap.size w w' := by
  have hd : decide ((4096 : Int) < (len : Int)) = true := by simp; omega
  go_enter Yba.func3, Yba.ntmps3
  go_wp2_with fail
  go_ret
  exact ⟨rfl, Below.refl _ _⟩

set_option maxHeartbeats 400000 in
/-- no word at all: nil or empty. -/
theorem model_none (a : Option Addr) (cap : Nat) (w : World) :
    Calls Yba.prog 3 #[.slice a 0 cap] w fun e w' => e = .returned (.bool true) ∧ Below w.heap.size w w' := by
  have hmk : (Instr.makeSlice 22 (.int .i64 0) (.int .i64 0)).run Yba.prog w = .ok (.slice (some ⟨w.heap.size, 0, none⟩) 0 0) (w.alloc (.cells (madeCells #[.int .u64 0] 0) 23)) :=
    run_make_row' (P := Yba.prog) 22 23 (.int .u64 0) 8 Yba.underlying22 Yba.info23 rfl .i64 .i64 0 (by omega) (by omega) w
  have hb0 : Below w.heap.size w (w.alloc (.cells (madeCells #[.int .u64 0] 0) 23)) := (Below.refl _ _).alloc (Nat.le_refl _) _
  generalize hw1 : w.alloc (.cells (madeCells #[.int .u64 0] 0) 23) = w1 at hb0 hmk
  clear hw1
  have hcp := run_copy_none (P := Yba.prog) w1 22 22 3 23 (some ⟨w.heap.size, 0, none⟩) a 0 0 0 cap Yba.underlying22 (by kernel_rfl) rfl
  go_enter Yba.func3, Yba.ntmps3
  go_wp2_with fail
  go_loop [4, 5] (fun v i => v = .bool true ∧ i = .int .i64 0) (fun _ _ => 0)
  case atStart => exact ⟨rfl, rfl⟩
  case round =>
    obtain ⟨rfl, rfl⟩ := hrel
    go_wp2_with fail
    refine (isEmpty_any w.heap.size 0 0 0 [] w1 (by simp) (by omega) (fun i hi => by omega)).mono ?_
    rw [show allZ (List.take 0 []) = true from rfl]
    rintro e w' ⟨rfl, rfl⟩
    go_wp2_with fail
    go_loop [7] (fun i => i = .int .i64 0) (fun _ => 0)
    case atStart => rfl
    case round =>
      subst hrel
      go_wp2_with fail
      go_ret
      exact ⟨rfl, hb0⟩
end Go.Proofs.Ybulkckss
