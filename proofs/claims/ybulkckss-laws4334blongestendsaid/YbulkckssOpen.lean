import Derived.Test.YbulkckssLd
import Derived.ProofKit
import Derived.OpenShut
import Derived.ShutString
import Derived.SliceStrings
import Derived.ChangeOld
import Derived.Below
namespace Go.Proofs.Ybulkckss
open Go.ChangeShapes Go.WideShapes Go.ChangeAt Go.RowKit

theorem Yba.cells9 : Yba.prog.cellsOf 9 = 1 := by kernel_rfl
theorem laidOut : laidOutB Yba.prog = true := by kernel_rfl
theorem own : ownKnob Yba.prog.godebug = none := by kernel_rfl

/-- what the walk is told of the texts that came in -/
theorem texts_open {H : Type} {enc : TypeId × Value → H} {W : World} {sp : Nat → Bool} {fuel len cap : Nat} {a : Option Addr} {x : DataW H × List MemPlace}
    (h : DataW.trod enc Yba.prog W 0 sp true fuel 28 [.slice a len cap] = some x) :
    ∃ (b off : Nat) (rs : Nat → ByteArray), Hid (len = 0 ∨ a = some ⟨b, off, none⟩) ∧ (0 < len → b < W.heap.size) ∧ ∀ i, i < len → W.cell? ⟨b, off + i, none⟩ = some (.string (rs i)) := by
  rcases open_strings Yba.underlying28 Yba.underlying9 Yba.cells9 h with ⟨hcs, _⟩ | ⟨ad, len', cap', ss, hcs, _, hl, _, hss, _, hcell, _⟩
  · simp at hcs
    obtain ⟨_, rfl, _⟩ := hcs
    exact ⟨0, 0, fun _ => ⟨#[]⟩, .inl rfl, fun h => by omega, fun i hi => by omega⟩
  · simp at hcs
    obtain ⟨rfl, rfl, rfl⟩ := hcs
    by_cases h0 : len = 0
    · subst h0
      exact ⟨0, 0, fun _ => ⟨#[]⟩, .inl rfl, fun h => by omega, fun i hi => by omega⟩
    have hlm : len ≤ ss.length := by rw [hss]; split <;> omega
    obtain ⟨b, off, spot⟩ := ad
    have hspot : spot = none := by
      have := hcell 0 (by omega)
      simpa [Addr.add] using World.cell?_spot this
    subst hspot
    have hc : ∀ i, i < len → W.cell? ⟨b, off + i, none⟩ = some (.string (ss.getD i ByteArray.empty)) := fun i hi => by
      have := hcell i (by omega)
      rwa [add_plain'] at this
    have hb : b < W.heap.size := by
      have := hc 0 (by omega)
      refine Nat.lt_of_not_le fun hge => ?_
      have hn : W.heap[b]? = none := Array.getElem?_eq_none hge
      simp [World.cell?, hn] at this
    exact ⟨b, off, fun i => ss.getD i ByteArray.empty, .inr rfl, fun _ => hb, hc⟩
end Go.Proofs.Ybulkckss
