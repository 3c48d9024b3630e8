import Derived.Test.YbulkckycState
namespace Go.Proofs.Ybulkckyc
open Go.RowKit

def ring0 : Array Value := #[.int .i64 0, .int .i64 0, .int .i32 0, .int .i32 0, .int .i64 0, .int .i64 0, .int .i32 0, .int .i32 0, .int .i64 0, .int .i64 0, .int .i32 0, .int .i32 0, .int .i64 0, .int .i64 0, .int .i32 0, .int .i32 0, .int .i64 0, .int .i64 0, .int .i32 0, .int .i32 0, .int .i64 0, .int .i64 0, .int .i32 0, .int .i32 0, .int .i64 0, .int .i64 0, .int .i32 0, .int .i32 0, .int .i64 0, .int .i64 0, .int .i32 0, .int .i32 0, .int .i64 0, .int .i64 0, .int .i32 0, .int .i32 0, .int .i64 0, .int .i64 0, .int .i32 0, .int .i32 0, .int .i64 0, .int .i64 0, .int .i32 0, .int .i32 0, .int .i64 0, .int .i64 0, .int .i32 0, .int .i32 0, .int .i64 0, .int .i64 0, .int .i32 0, .int .i32 0, .int .i64 0, .int .i64 0, .int .i32 0, .int .i32 0, .int .i64 0, .int .i64 0, .int .i32 0, .int .i32 0, .int .i64 0, .int .i64 0, .int .i32 0, .int .i32 0, .int .i64 0, .int .i64 0, .int .i32 0, .int .i32 0, .int .i64 0, .int .i64 0, .int .i32 0, .int .i32 0, .int .i64 0, .int .i64 0, .int .i32 0, .int .i32 0, .int .i64 0, .int .i64 0, .int .i32 0, .int .i32 0]
theorem make20 (w : World) : (Instr.makeSlice 118 (.int .i64 20) (.int .i64 20)).run Yba.prog w = .ok (.slice (some ⟨w.heap.size, 0, none⟩) 20 20) (w.alloc (.cells ring0 56)) := by kernel_rfl

def ringC (c o : Nat) : Value := if o % 4 = 1 then (if o / 4 < c then .int .i64 (-1) else .int .i64 0) else if o % 4 = 0 then .int .i64 0 else .int .i32 0
theorem ring0_eq : (List.range 80).map (ringC 0) = ring0.toList := by kernel_rfl
def RingAt (B c : Nat) (w : World) : Prop := tyOf w B = some 56 ∧ ∀ o, o < 80 → w.cell? ⟨B, o, none⟩ = some (ringC c o)
theorem ring_start (w : World) : RingAt w.heap.size 0 (w.alloc (.cells ring0 56)) := by
  have hb := (MapKept.heap_alloc w (.cells ring0 56)).1
  refine ⟨tyOf_of hb, fun o ho => ?_⟩
  have h1 : ring0[o]? = some (ringC 0 o) := by
    rw [← Array.getElem?_toList, ← ring0_eq, List.getElem?_map, List.getElem?_range ho]; rfl
  simp only [World.cell?, hb]
  exact h1
theorem ring_step {B c : Nat} {w : World} (h : RingAt B c w) : RingAt B (c + 1) (w.setCell ⟨B, c * 4 + 1, none⟩ (.int .i64 (-1))) := by
  refine ⟨(set_ty h.1).trans h.1, fun o ho => ?_⟩
  rw [set_cell (h.2 o ho)]
  by_cases e : o = c * 4 + 1
  · subst e
    rw [if_pos rfl]
    unfold ringC
    rw [if_pos (by omega), if_pos (by omega)]
  · rw [if_neg (fun x => by simp only [Addr.mk.injEq, true_and, and_true] at x; exact e x.symm)]
    unfold ringC
    by_cases e1 : o % 4 = 1
    · rw [if_pos e1, if_pos e1]
      by_cases e2 : o / 4 < c
      · rw [if_pos e2, if_pos (by omega)]
      · rw [if_neg e2, if_neg (by omega)]
    · rw [if_neg e1, if_neg e1]

set_option maxHeartbeats 2000000 in
set_option maxRecDepth 100000 in
theorem newRing_walk (w : World) : Calls Yba.prog 36 #[.int .i64 20] w fun e w' => e = .returned (.slice (some ⟨w.heap.size, 0, none⟩) 20 20) ∧ RingAt w.heap.size 20 w' ∧ Below w.heap.size w w' ∧ w'.heap.size = w.heap.size + 1 := by
  have hm := make20 w
  go_enter Yba.func36, Yba.ntmps36
  go_wp2_with fail
  go_loopw [9] (fun b wr => ∃ c : Nat, c ≤ 20 ∧ b = .int .i64 c ∧ RingAt w.heap.size c wr ∧ Below w.heap.size w wr ∧ wr.heap.size = w.heap.size + 1) (fun b _ => 20 - (intOf b).toNat)
  case atStart => exact ⟨0, by omega, rfl, ring_start w, (Below.refl _ _).alloc (Nat.le_refl _) _, World.size_alloc _ _⟩
  case round =>
    clear hm
    obtain ⟨c, hc, rfl, hr, hb, hz⟩ := hrel
    by_cases hlt : c < 20
    · have hI : (c : Int) < 20 := by omega
      have cc := hr.2 (c * 4 + 1) (by omega)
      have ff := tyOf_frozen hr.1 (c * 4 + 1)
      have HZ : Hid (wr.heap.size = w.heap.size + 1) := hz
      clear hz
      go_wp2_with fail
      go_roundw
      case rel => exact ⟨c + 1, by omega, by go_num, ring_step hr, hb.setCell (Nat.le_refl _) _, by simpa using HZ.out⟩
      case measure => simp [intOf]; omega
    · have e : c = 20 := by omega
      subst e
      have HZ : Hid (wr.heap.size = w.heap.size + 1) := hz
      clear hz
      go_wp2_with fail
      go_ret
      exact ⟨rfl, hr, hb, HZ.out⟩
end Go.Proofs.Ybulkckyc
