import Derived.Test.YbulkckuwState
import Derived.ProofKit
import Derived.OpenShut
import Derived.Deep.SlicePairs
import Derived.ChangeOld
import Derived.Below
namespace Go.Proofs.Ybulkckuw
open Go.ChangeShapes Go.WideShapes Go.ChangeAt Go.RowKit

theorem Yba.cells46 : Yba.prog.cellsOf 46 = 2 := by kernel_rfl
theorem Yba.cells5 : Yba.prog.cellsOf 5 = 1 := by kernel_rfl
theorem Yba.cells4 : Yba.prog.cellsOf 4 = 1 := by kernel_rfl
theorem own : ownKnob Yba.prog.godebug = none := by kernel_rfl
theorem laidOut : laidOutB Yba.prog = true := by kernel_rfl

/-- what the walk is told of the steps that came in -/
theorem steps_open {H : Type} {enc : TypeId × Value → H} {W : World} {sp : Nat → Bool} {fuel len cap : Nat} {a : Option Addr} {x : DataW H × List MemPlace}
    (h : DataW.trod enc Yba.prog W 0 sp true fuel 22 [.slice a len cap] = some x) :
    ∃ (b off : Nat) (pk : Nat → Nat) (sc : Nat → Bool), Hid (len = 0 ∨ a = some ⟨b, off, none⟩) ∧ (0 < len → b < W.heap.size) ∧ (∀ i, pk i < 256) ∧
      ∀ i, i < len → W.cell? ⟨b, off + i * 2, none⟩ = some (.int .u8 (pk i)) ∧ W.cell? ⟨b, off + i * 2 + 1, none⟩ = some (.bool (sc i)) := by
  rcases Deep.open_slice_pairs Yba.underlying22 Yba.underlying46 Yba.cells46 rfl rfl Yba.cells5 Yba.cells4 h with ⟨hcs, _⟩ | ⟨ad, len', cap', m, n, V0, V1, D0, D1, P0, P1, hcs, _, hl, hm, hmm, _, hx⟩
  · simp at hcs
    obtain ⟨_, rfl, _⟩ := hcs
    exact ⟨0, 0, fun _ => 0, fun _ => false, .inl rfl, fun h => by omega, fun _ => (by decide : (0 : Nat) < 256), fun i hi => by omega⟩
  · simp at hcs
    obtain ⟨rfl, rfl, rfl⟩ := hcs
    by_cases h0 : len = 0
    · subst h0
      exact ⟨0, 0, fun _ => 0, fun _ => false, .inl rfl, fun h => by omega, fun _ => (by decide : (0 : Nat) < 256), fun i hi => by omega⟩
    have hlm : len ≤ m := by rw [hmm]; split <;> omega
    obtain ⟨b, off, spot⟩ := ad
    have hspot : spot = none := by
      have := (hx 0 (by omega)).1
      simpa [Addr.add] using World.cell?_spot this
    subst hspot
    have each : ∀ i, ∃ q : Nat × Bool, q.1 < 256 ∧ (i < len → W.cell? ⟨b, off + i * 2, none⟩ = some (.int .u8 q.1) ∧ W.cell? ⟨b, off + i * 2 + 1, none⟩ = some (.bool q.2)) := fun i => by
      by_cases hi : i < len
      · obtain ⟨c0, c1, t0, t1⟩ := hx i (by omega)
        obtain ⟨z, e0, _, wz⟩ := DataW.trod_int Yba.underlying5 t0
        obtain ⟨y, e1, _⟩ := DataW.trod_bool Yba.underlying4 t1
        simp only [List.cons.injEq, and_true] at e0 e1
        rw [e0] at c0
        rw [e1] at c1
        have bz := bounds_u8 wz
        obtain ⟨z', rfl⟩ := Int.eq_ofNat_of_zero_le bz.1
        rw [add_plain] at c0 c1
        exact ⟨(z', y), by show z' < 256; omega, fun _ => ⟨c0, c1⟩⟩
      · exact ⟨(0, false), by simp, fun h => absurd h hi⟩
    have hb : b < W.heap.size := by
      have := (hx 0 (by omega)).1
      refine Nat.lt_of_not_le fun hge => ?_
      have hn : W.heap[b]? = none := Array.getElem?_eq_none hge
      simp [World.cell?, Addr.add, hn] at this
    exact ⟨b, off, fun i => (Classical.choose (each i)).1, fun i => (Classical.choose (each i)).2, .inr rfl, fun _ => hb, fun i => (Classical.choose_spec (each i)).1, fun i hi => (Classical.choose_spec (each i)).2 hi⟩
end Go.Proofs.Ybulkckuw
