import Derived.Test.YbulkckycLawWalk
import Derived.ProofKit
import Derived.OpenShut
import Derived.Deep.Slices
import Derived.ChangeOld
import Derived.Below
namespace Go.Proofs.Ybulkckyc
open Go.ChangeShapes Go.WideShapes Go.ChangeAt Go.RowKit

theorem Yba.cells42 : Yba.prog.cellsOf 42 = 1 := by kernel_rfl
theorem Yba.cells4 : Yba.prog.cellsOf 4 = 1 := by kernel_rfl
theorem laidOut : laidOutB Yba.prog = true := by kernel_rfl

/-- what the walk is told of the dues that came in -/
theorem dues_open {H : Type} {enc : TypeId × Value → H} {W : World} {sp : Nat → Bool} {fuel len cap : Nat} {a : Option Addr} {x : DataW H × List MemPlace}
    (h : DataW.trod enc Yba.prog W 0 sp true fuel 79 [.slice a len cap] = some x) :
    ∃ (b off : Nat) (du : Nat → Nat), Hid (len = 0 ∨ a = some ⟨b, off, none⟩) ∧ (0 < len → b < W.heap.size) ∧ (∀ i, du i < 4294967296) ∧ ∀ i, i < len → W.cell? ⟨b, off + i, none⟩ = some (.int .u32 (du i)) := by
  rcases Deep.open_slice1 Yba.underlying79 Yba.cells42 h with ⟨hcs, _⟩ | ⟨ad, len', cap', m, n, V, D0, P0, hcs, _, hl, hm, hmm, _, hx⟩
  · simp at hcs
    obtain ⟨_, rfl, _⟩ := hcs
    exact ⟨0, 0, fun _ => 0, .inl rfl, fun h => by omega, fun _ => (by decide : (0 : Nat) < 4294967296), fun i hi => by omega⟩
  · simp at hcs
    obtain ⟨rfl, rfl, rfl⟩ := hcs
    by_cases h0 : len = 0
    · subst h0
      exact ⟨0, 0, fun _ => 0, .inl rfl, fun h => by omega, fun _ => (by decide : (0 : Nat) < 4294967296), fun i hi => by omega⟩
    have hlm : len ≤ m := by rw [hmm]; split <;> omega
    obtain ⟨b, off, spot⟩ := ad
    have hspot : spot = none := by
      have := (hx 0 (by omega)).1
      simpa [Addr.add] using World.cell?_spot this
    subst hspot
    have each : ∀ i, ∃ q : Nat, q < 4294967296 ∧ (i < len → W.cell? ⟨b, off + i, none⟩ = some (.int .u32 q)) := fun i => by
      by_cases hi : i < len
      · obtain ⟨c0, t0⟩ := hx i (by omega)
        obtain ⟨z, e0, _, wz⟩ := DataW.trod_int Yba.underlying42 t0
        simp only [List.cons.injEq, and_true] at e0
        rw [e0] at c0
        have bz := bounds_u32 wz
        obtain ⟨z', rfl⟩ := Int.eq_ofNat_of_zero_le bz.1
        rw [add_plain] at c0
        exact ⟨z', by omega, fun _ => c0⟩
      · exact ⟨0, by decide, fun h => absurd h hi⟩
    have hb : b < W.heap.size := by
      have := (hx 0 (by omega)).1
      refine Nat.lt_of_not_le fun hge => ?_
      have hn : W.heap[b]? = none := Array.getElem?_eq_none hge
      simp [World.cell?, Addr.add, hn] at this
    exact ⟨b, off, fun i => Classical.choose (each i), .inr rfl, fun _ => hb, fun i => (Classical.choose_spec (each i)).1, fun i hi => (Classical.choose_spec (each i)).2 hi⟩
/-- and of the marks -/
theorem keep_open {H : Type} {enc : TypeId × Value → H} {W : World} {sp : Nat → Bool} {fuel len cap : Nat} {a : Option Addr} {x : DataW H × List MemPlace}
    (h : DataW.trod enc Yba.prog W 0 sp true fuel 80 [.slice a len cap] = some x) :
    ∃ (b off : Nat) (kp : Nat → Bool), Hid (len = 0 ∨ a = some ⟨b, off, none⟩) ∧ (0 < len → b < W.heap.size) ∧ ∀ i, i < len → W.cell? ⟨b, off + i, none⟩ = some (.bool (kp i)) := by
  rcases Deep.open_slice1 Yba.underlying80 Yba.cells4 h with ⟨hcs, _⟩ | ⟨ad, len', cap', m, n, V, D0, P0, hcs, _, hl, hm, hmm, _, hx⟩
  · simp at hcs
    obtain ⟨_, rfl, _⟩ := hcs
    exact ⟨0, 0, fun _ => false, .inl rfl, fun h => by omega, fun i hi => by omega⟩
  · simp at hcs
    obtain ⟨rfl, rfl, rfl⟩ := hcs
    by_cases h0 : len = 0
    · subst h0
      exact ⟨0, 0, fun _ => false, .inl rfl, fun h => by omega, fun i hi => by omega⟩
    have hlm : len ≤ m := by rw [hmm]; split <;> omega
    obtain ⟨b, off, spot⟩ := ad
    have hspot : spot = none := by
      have := (hx 0 (by omega)).1
      simpa [Addr.add] using World.cell?_spot this
    subst hspot
    have each : ∀ i, ∃ q : Bool, i < len → W.cell? ⟨b, off + i, none⟩ = some (.bool q) := fun i => by
      by_cases hi : i < len
      · obtain ⟨c0, t0⟩ := hx i (by omega)
        obtain ⟨z, e0, _⟩ := DataW.trod_bool Yba.underlying4 t0
        simp only [List.cons.injEq, and_true] at e0
        rw [e0] at c0
        rw [add_plain] at c0
        exact ⟨z, fun _ => c0⟩
      · exact ⟨false, fun h => absurd h hi⟩
    have hb : b < W.heap.size := by
      have := (hx 0 (by omega)).1
      refine Nat.lt_of_not_le fun hge => ?_
      have hn : W.heap[b]? = none := Array.getElem?_eq_none hge
      simp [World.cell?, Addr.add, hn] at this
    exact ⟨b, off, fun i => Classical.choose (each i), .inr rfl, fun _ => hb, fun i hi => (Classical.choose_spec (each i)) hi⟩
end Go.Proofs.Ybulkckyc
