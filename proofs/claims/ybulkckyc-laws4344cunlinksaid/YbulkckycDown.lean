import Derived.Test.YbulkckycHeap
namespace Go.Proofs.Ybulkckyc
open Go.RowKit
variable {w0 wx w : World} {W C G : Nat} {D : Dat} {qs : List (Nat × Nat)}

def IsB (e : Ending) : Prop := ∃ b, e = .returned (.bool b)

set_option maxHeartbeats 4000000 in
set_option maxRecDepth 100000 in
theorem hdown_call (h : HI D qs) (s : St w0 wx W C G D w) {i n : Nat} (hi : i < 2500) (hn : n ≤ qs.length) :
    Calls Yba.prog 46 #[.iface 109 (.pointer (some ⟨W, 17, none⟩)), .int .i64 i, .int .i64 n] w fun e w' => IsB e ∧ Moved w0 wx W C G D qs (fun p => n ≤ p) w' := by
  have hln := h.ln
  go_enter Yba.func46, Yba.ntmps46
  go_wp2_with fail
  go_loopw [7] (fun b wr => ∃ p : Nat, p < 2500 ∧ b = .int .i64 p ∧ Moved w0 wx W C G D qs (fun p => n ≤ p) wr) (fun b _ => n - (intOf b).toNat)
  case atStart => exact ⟨i, hi, rfl, D, qs, s, h, Only1.refl _, Same.refl _, fun _ _ => rfl⟩
  case round =>
    obtain ⟨p, hp, rfl, D', qs', s', h', o', sm, hk⟩ := hrel
    clear s h
    have hp2 : (p : Int) < 2500 := by omega
    have hiI : (i : Int) < 2500 := by omega
    have hnI : (n : Int) ≤ 2500 := by omega
    have hl := sm.1
    by_cases h1 : n ≤ 2 * p + 1
    · have h1I : (n : Int) ≤ 2 * (p : Int) + 1 := by omega
      go_wp2_with fail
      go_ret
      exact ⟨⟨_, rfl⟩, D', qs', s', h', o', sm, hk⟩
    · have h1I : ¬ (n : Int) ≤ 2 * (p : Int) + 1 := by omega
      by_cases h2 : 2 * p + 1 + 1 < n
      · have h2I : 2 * (p : Int) + 1 + 1 < (n : Int) := by omega
        have L := less_call h' s' (i := 2 * p + 1 + 1) (j := 2 * p + 1) (by omega) (by omega)
        rw [show ((2 * p + 1 + 1 : Nat) : Int) = 2 * (p : Int) + 1 + 1 from by omega, show ((2 * p + 1 : Nat) : Int) = 2 * (p : Int) + 1 from by omega] at L
        have c17 : wr.cell? ⟨W, 17, none⟩ = some (D'.wc 0 17) := s'.fW.cell 0 17 (by omega) (by omega)
        have hless := meth_val (W := W) Yba.mLess c17
        clear c17
        go_wp2_with fail
        refine L.mono ?_
        rintro e w1 ⟨⟨b, rfl⟩, s1⟩
        clear L hless
        cases b
        · have L2 := less_call h' s1 (i := (2 * p + 1)) (j := p) (by omega) (by omega)
          rw [show ((2 * p + 1 : Nat) : Int) = 2 * (p : Int) + 1 from by omega] at L2
          have c17 : w1.cell? ⟨W, 17, none⟩ = some (D'.wc 0 17) := s1.fW.cell 0 17 (by omega) (by omega)
          have hless2 := meth_val (W := W) Yba.mLess c17
          clear c17
          go_wp2_with fail
          refine L2.mono ?_
          rintro e w2 ⟨⟨b2, rfl⟩, s2⟩
          have c17 : w2.cell? ⟨W, 17, none⟩ = some (D'.wc 0 17) := s2.fW.cell 0 17 (by omega) (by omega)
          have hswap := meth_val (W := W) Yba.mSwap c17
          have S := swap_call h' s2 (i := p) (j := (2 * p + 1)) (by omega) (by omega) (by omega)
          rw [show ((2 * p + 1 : Nat) : Int) = 2 * (p : Int) + 1 from by omega] at S
          clear c17 hless2 L2
          cases b2
          · go_wp2_with fail
            go_ret
            exact ⟨⟨_, rfl⟩, D', qs', s2, h', o', sm, hk⟩
          · go_wp2_with fail
            refine S.mono ?_
            rintro e w3 ⟨rfl, D2, s3, h3, o3⟩
            clear S hswap
            obtain ⟨A, hA⟩ : ∃ A, qs'[p]? = some A := ⟨_, List.getElem?_eq_getElem (by omega)⟩
            obtain ⟨B, hB⟩ : ∃ B, qs'[(2 * p + 1)]? = some B := ⟨_, List.getElem?_eq_getElem (by omega)⟩
            go_wp2_with fail
            go_roundw
            case rel => exact ⟨(2 * p + 1), by omega, by go_num, D2, swp qs' p (2 * p + 1), s3, h3, o'.trans o3, sm.trans (swp_same hA hB), fun r hr => by rw [swp_get hA hB, if_neg (by omega), if_neg (by omega)]; exact hk r hr⟩
            case measure => simp [intOf]; omega
        · have L2 := less_call h' s1 (i := (2 * p + 1 + 1)) (j := p) (by omega) (by omega)
          rw [show ((2 * p + 1 + 1 : Nat) : Int) = 2 * (p : Int) + 1 + 1 from by omega] at L2
          have c17 : w1.cell? ⟨W, 17, none⟩ = some (D'.wc 0 17) := s1.fW.cell 0 17 (by omega) (by omega)
          have hless2 := meth_val (W := W) Yba.mLess c17
          clear c17
          go_wp2_with fail
          refine L2.mono ?_
          rintro e w2 ⟨⟨b2, rfl⟩, s2⟩
          have c17 : w2.cell? ⟨W, 17, none⟩ = some (D'.wc 0 17) := s2.fW.cell 0 17 (by omega) (by omega)
          have hswap := meth_val (W := W) Yba.mSwap c17
          have S := swap_call h' s2 (i := p) (j := (2 * p + 1 + 1)) (by omega) (by omega) (by omega)
          rw [show ((2 * p + 1 + 1 : Nat) : Int) = 2 * (p : Int) + 1 + 1 from by omega] at S
          clear c17 hless2 L2
          cases b2
          · go_wp2_with fail
            go_ret
            exact ⟨⟨_, rfl⟩, D', qs', s2, h', o', sm, hk⟩
          · go_wp2_with fail
            refine S.mono ?_
            rintro e w3 ⟨rfl, D2, s3, h3, o3⟩
            clear S hswap
            obtain ⟨A, hA⟩ : ∃ A, qs'[p]? = some A := ⟨_, List.getElem?_eq_getElem (by omega)⟩
            obtain ⟨B, hB⟩ : ∃ B, qs'[(2 * p + 1 + 1)]? = some B := ⟨_, List.getElem?_eq_getElem (by omega)⟩
            go_wp2_with fail
            go_roundw
            case rel => exact ⟨(2 * p + 1 + 1), by omega, by go_num, D2, swp qs' p (2 * p + 1 + 1), s3, h3, o'.trans o3, sm.trans (swp_same hA hB), fun r hr => by rw [swp_get hA hB, if_neg (by omega), if_neg (by omega)]; exact hk r hr⟩
            case measure => simp [intOf]; omega
      · have h2I : ¬ 2 * (p : Int) + 1 + 1 < (n : Int) := by omega
        have L2 := less_call h' s' (i := (2 * p + 1)) (j := p) (by omega) (by omega)
        rw [show ((2 * p + 1 : Nat) : Int) = 2 * (p : Int) + 1 from by omega] at L2
        have c17 : wr.cell? ⟨W, 17, none⟩ = some (D'.wc 0 17) := s'.fW.cell 0 17 (by omega) (by omega)
        have hless2 := meth_val (W := W) Yba.mLess c17
        clear c17
        go_wp2_with fail
        refine L2.mono ?_
        rintro e w2 ⟨⟨b2, rfl⟩, s2⟩
        have c17 : w2.cell? ⟨W, 17, none⟩ = some (D'.wc 0 17) := s2.fW.cell 0 17 (by omega) (by omega)
        have hswap := meth_val (W := W) Yba.mSwap c17
        have S := swap_call h' s2 (i := p) (j := (2 * p + 1)) (by omega) (by omega) (by omega)
        rw [show ((2 * p + 1 : Nat) : Int) = 2 * (p : Int) + 1 from by omega] at S
        clear c17 hless2 L2
        cases b2
        · go_wp2_with fail
          go_ret
          exact ⟨⟨_, rfl⟩, D', qs', s2, h', o', sm, hk⟩
        · go_wp2_with fail
          refine S.mono ?_
          rintro e w3 ⟨rfl, D2, s3, h3, o3⟩
          clear S hswap
          obtain ⟨A, hA⟩ : ∃ A, qs'[p]? = some A := ⟨_, List.getElem?_eq_getElem (by omega)⟩
          obtain ⟨B, hB⟩ : ∃ B, qs'[(2 * p + 1)]? = some B := ⟨_, List.getElem?_eq_getElem (by omega)⟩
          go_wp2_with fail
          go_roundw
          case rel => exact ⟨(2 * p + 1), by omega, by go_num, D2, swp qs' p (2 * p + 1), s3, h3, o'.trans o3, sm.trans (swp_same hA hB), fun r hr => by rw [swp_get hA hB, if_neg (by omega), if_neg (by omega)]; exact hk r hr⟩
          case measure => simp [intOf]; omega
end Go.Proofs.Ybulkckyc
