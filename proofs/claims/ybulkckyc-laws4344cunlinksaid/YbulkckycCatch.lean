import Derived.Test.YbulkckycTakeCall
namespace Go.Proofs.Ybulkckyc
open Go.RowKit
variable {w0 wx w : World} {W C G : Nat} {D : Dat}

set_option maxHeartbeats 2000000 in
set_option maxRecDepth 100000 in
theorem catchUp_call {cap a : Nat} {live : Nat → Bool} {L : Nat × Nat → List Nat} {qs : List (Nat × Nat)} (h : Inv C G cap D a live L qs) (s : St w0 wx W C G D w) :
    Calls Yba.prog 15 #[.pointer (some ⟨W, 0, none⟩), .int .i64 0] w fun e w' => e = .returned (.tuple #[]) ∧ w' = w := by
  have c15 := (s.fW.cell 0 15 (by omega) (by omega)).trans (congrArg some h.kon.k15)
  by_cases hq : qs.length = 0
  · obtain ⟨ad, cp, hv⟩ : ∃ ad cap, D.wc 0 17 = .slice ad 0 cap := by
      rcases s.oQ.2 with ⟨h0, h1⟩ | ⟨g, cap, cur, h0, _⟩
      · exact ⟨none, 0, h0⟩
      · exact ⟨_, cap, by rw [h0, h.hi.len, hq]⟩
    have c17 := (s.fW.cell 0 17 (by omega) (by omega)).trans (congrArg some hv)
    clear hv hq
    go_enter Yba.func15, Yba.ntmps15
    go_wp2_with fail
    go_end0
    exact ⟨rfl, rfl⟩
  · obtain ⟨g, cp, hv, tg, hcp, hrow⟩ := h.hi.row s (by omega)
    obtain ⟨A, hA⟩ : ∃ A, qs[0]? = some A := ⟨_, List.getElem?_eq_getElem (by omega)⟩
    obtain ⟨a1, a2⟩ := h.hi.bd A (List.mem_of_getElem? hA)
    obtain ⟨z, hz⟩ := h.hi.st _ _ a1 a2
    have cx := (s.fR.cell A.1 (A.2 * 4) a1 (by omega)).trans (congrArg some hz)
    have cr := hrow 0 A hA
    unfold Dat.slotP at cr
    have c17 := (s.fW.cell 0 17 (by omega) (by omega)).trans (congrArg some hv)
    have hl := h.hi.ln
    obtain ⟨m, hm⟩ : ∃ m, qs.length = m + 1 := ⟨qs.length - 1, by omega⟩
    rw [hm] at c17
    have hmI : (m : Int) < 2500 := by omega
    clear hv hz hrow hm hq hA
    by_cases hz0 : z < 0
    · go_enter Yba.func15, Yba.ntmps15
      go_wp2_with fail
      go_end0
      exact ⟨rfl, rfl⟩
    · go_enter Yba.func15, Yba.ntmps15
      go_wp2_with fail
      go_end0
      exact ⟨rfl, rfl⟩
end Go.Proofs.Ybulkckyc
