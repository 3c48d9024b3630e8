import Derived.Test.YbulkckycUnlink
namespace Go.Proofs.Ybulkckyc
open Go.RowKit
variable {w0 wx w : World} {W C G : Nat} {D : Dat}

set_option maxHeartbeats 2000000 in
theorem withdraw_call {cap a : Nat} {live : Nat → Bool} {L : Nat × Nat → List Nat} {qs : List (Nat × Nat)} (h : Inv C G cap D a live L qs) (s : St w0 wx W C G D w) {i : Nat} (hia : i < a) (hl : live i = true) :
    Calls Yba.prog 7 #[.pointer (some ⟨W, 0, none⟩), .pointer (some ⟨D.tb i, 0, none⟩)] w fun e w' => e = .returned (.tuple #[]) ∧ ∃ D' L' qs', St w0 wx W C G D' w' ∧ D'.tb = D.tb ∧ D'.nt = D.nt ∧ Inv C G cap D' a (upB live i false) L' qs' := by
  have hc1 := cnt_off hia hl
  have hca := cnt_le live a
  have ha := h.a25
  have hit : i < D.nt := Nat.lt_of_lt_of_le hia h.nt
  have ct := (s.fT.cell i 3 hit (by omega)).trans (congrArg some (h.tm i hia))
  rw [hl] at ct
  unfold i32v at ct
  simp only [if_true] at ct
  have hne : (((i + 1 : Nat) : Int) == 0) = false := by simp; omega
  have U := unlink_call h s hia hl
  have h27 := h.u27
  go_enter Yba.func7, Yba.ntmps7
  go_wp2_with fail
  refine U.mono ?_
  rintro e w1 ⟨rfl, D', L', qs', s1, e27, etb, ent, inv⟩
  have c27 := (s1.fW.cell 0 27 (by omega) (by omega)).trans (congrArg some (e27.trans h27))
  have f27 := tyOf_frozen (s1.fW.ty 0 (by omega)) 27
  have hcI : ((cnt live a : Nat) : Int) = (cnt (upB live i false) a : Int) + 1 := by omega
  rw [hcI] at c27
  have hcb : ((cnt (upB live i false) a : Nat) : Int) ≤ 2500 := by omega
  have s2 := s1.setW 27 (.int .u64 (cnt (upB live i false) a)) (by decide) (by decide) (by decide)
  clear U ct hne hcI e27 h27 h s
  go_wp2_with fail
  go_end0
  exact ⟨rfl, _, L', qs', s2, etb, ent, inv⟩
end Go.Proofs.Ybulkckyc
