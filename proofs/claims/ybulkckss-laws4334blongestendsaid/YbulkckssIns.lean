import Derived.Test.YbulkckssRow
namespace Go.Proofs.Ybulkckss
open Go.RowKit
variable {w0 w w' : World} {B n : Nat} {f : Nat → Ed}

abbrev cmpV : Value := .func (.func 19) #[] #[]
/-- the closure at two elements -/
theorem less_call (x y : Ed) (c : Int) (hc : cmpv x.fr y.fr = c) (h : EW w0 B n f w) : Calls Yba.prog 19 #[.agg #[.int .i32 x.fr, .int .u8 x.b, .int .i32 x.tt], .agg #[.int .i32 y.fr, .int .u8 y.b, .int .i32 y.tt]] w fun e w' => e = .returned (.int .i64 c) ∧ EW w0 B n f w' := by
  refine (closure_walk x y w).mono ?_
  rintro e w' ⟨rfl, hb⟩
  exact ⟨by rw [hc], h.new hb⟩
theorem cmpv_lt {x y : Nat} (h : x < y) : cmpv x y = -1 := if_pos h
theorem cmpv_ge {x y : Nat} (h : y ≤ x) : 0 ≤ cmpv x y := by unfold cmpv; rw [if_neg (by omega)]; split <;> decide

set_option maxHeartbeats 8000000 in
set_option maxRecDepth 100000 in
/-- insertionSort -/
theorem insertion_call (cap a b : Nat) (hn : n ≤ 65536) (hab : a ≤ b) (hb : b ≤ n) (h : EW w0 B n f w) :
    Calls Yba.prog 40 #[.slice (some ⟨B, 0, none⟩) n cap, .int .i64 a, .int .i64 b, cmpV] w fun e w' => e = .returned (.tuple #[]) ∧ ∃ g, EW w0 B n g w' ∧ PermF a b f g ∧ SortF Ed.fr a b g := by
  have hbI : (b : Int) ≤ 65536 := by omega
  have haI : (a : Int) ≤ (b : Int) := by omega
  go_enter Yba.func40, Yba.ntmps40
  go_wp2_with fail
  go_loopw [8, 9] (fun x _ wr => ∃ (i : Nat) (g : Nat → Ed), a + 1 ≤ i ∧ (i ≤ b ∨ i = a + 1) ∧ x = .int .i64 i ∧ EW w0 B n g wr ∧ PermF a b f g ∧ SortF Ed.fr a (min i b) g) (fun x _ _ => 65537 - (intOf x).toNat)
  case atStart => exact ⟨a + 1, f, by omega, .inr rfl, by go_num, h, PermF.refl _ _ _, fun i j h1 h2 h3 => by omega⟩
  case round =>
    clear h
    obtain ⟨i, g, hi1, hi2, rfl, hw, hp, hs⟩ := hrel
    by_cases hlt : i < b
    · have hI : (i : Int) < (b : Int) := by omega
      have hI0 : (a : Int) < (i : Int) := by omega
      rw [show min i b = i from by omega] at hs
      go_wp2_with fail
      go_loopw [9] (fun y wr => ∃ j : Nat, a ≤ j ∧ j ≤ i ∧ y = .int .i64 j ∧ EW w0 B n (rotF g j i (i + 1)) wr ∧ ∀ k, j ≤ k → k < i → (g i).fr ≤ (g k).fr) (fun y _ => (intOf y).toNat)
      case atStart => exact ⟨i, by omega, by omega, rfl, by rw [rotF_nil2 g (by omega)]; exact hw, fun k h1 h2 => by omega⟩
      case round =>
        clear hw
        obtain ⟨j, hj1, hj2, rfl, hw, hk⟩ := hrel
        have done : (∀ k, a ≤ k → k < j → (g k).fr ≤ (g i).fr) → PermF a b f (rotF g j i (i + 1)) ∧ SortF Ed.fr a (min (i + 1) b) (rotF g j i (i + 1)) := fun hlo => by
          refine ⟨hp.trans ((rotF_perm g hj2 (by omega)).mono hj1 (by omega)), ?_⟩
          rw [show min (i + 1) b = i + 1 from by omega]
          exact ins_right hs hj1 hj2 hlo hk
        by_cases hja : a < j
        · obtain ⟨j, rfl⟩ : ∃ j', j = j' + 1 := ⟨j - 1, by omega⟩
          have cells : ∀ w', EW w0 B n (rotF g (j + 1) i (i + 1)) w' → w'.cell? ⟨B, (j + 1) * 3, none⟩ = some (.int .i32 (g i).fr) ∧ w'.cell? ⟨B, (j + 1) * 3 + 1, none⟩ = some (.int .u8 (g i).b) ∧ w'.cell? ⟨B, (j + 1) * 3 + 2, none⟩ = some (.int .i32 (g i).tt) ∧
              w'.cell? ⟨B, j * 3, none⟩ = some (.int .i32 (g j).fr) ∧ w'.cell? ⟨B, j * 3 + 1, none⟩ = some (.int .u8 (g j).b) ∧ w'.cell? ⟨B, j * 3 + 2, none⟩ = some (.int .i32 (g j).tt) := fun w' h' => by
            obtain ⟨p0, p1, p2⟩ := h'.row.2 (j + 1) (by omega)
            obtain ⟨q0, q1, q2⟩ := h'.row.2 j (by omega)
            rw [rot_lo g (by omega) (by omega), show j + 1 + (i - (j + 1)) = i from by omega] at p0 p1 p2
            rw [rot_out g (by omega) (by omega) hj2] at q0 q1 q2
            exact ⟨p0, p1, p2, q0, q1, q2⟩
          have hgd : (a : Int) < (j : Int) + 1 := by omega
          have hwp : IntKind.i64.wrap (j : Int) = (j : Int) := by rw [IntKind.wrap_i64]; omega
          have jz : (j : Int) + 1 < (n : Int) := by omega
          have jz1 : (j : Int) < (n : Int) := by omega
          have hp0 : (0 : Int) ≤ (j : Int) + 1 := by omega
          have e0 : ((j : Int) + 1).toNat = j + 1 := by omega
          by_cases hcmp : (g i).fr < (g j).fr
          · go_wp2_with fail
            go_region_held3 (fun w' => w'.cell? ⟨B, (j + 1) * 3, none⟩ = some (.int .i32 (g i).fr) ∧ w'.cell? ⟨B, (j + 1) * 3 + 1, none⟩ = some (.int .u8 (g i).b) ∧ w'.cell? ⟨B, (j + 1) * 3 + 2, none⟩ = some (.int .i32 (g i).tt) ∧
                w'.cell? ⟨B, j * 3, none⟩ = some (.int .i32 (g j).fr) ∧ w'.cell? ⟨B, j * 3 + 1, none⟩ = some (.int .u8 (g j).b) ∧ w'.cell? ⟨B, j * 3 + 2, none⟩ = some (.int .i32 (g j).tt))
              (first | exact cells _ hw.drew | exact cells _ h1 | go_keep)
              (first | (go_at_call 19; refine (less_call (g i) (g j) (-1) (cmpv_lt hcmp) hw.drew).mono ?_; rintro e w1 ⟨rfl, h1⟩))
            obtain ⟨p0, p1, p2, q0, q1, q2⟩ := cells _ h1
            have fz := tyOf_frozen h1.row.1
            have st : EW w0 B n (rotF g j i (i + 1)) (put3 (put3 w1 B (j + 1) (g j)) B j (g i)).drew := by
              have h2 := (h1.swap1 (j + 1) j).drew
              rw [rot_lo g (k := j + 1) (by omega) (by omega), show j + 1 + (i - (j + 1)) = i from by omega, rot_out g (k := j) (by omega) (by omega) hj2] at h2
              have h3 := ins_down g (k := j + 1) (m := i) (by omega) hj2
              rw [show j + 1 - 1 = j from by omega] at h3
              rw [h3] at h2
              exact h2
            clear cells done hw
            go_wp2_with fail
            go_region
            clear p0 p1 p2 q0 q1 q2 fz
            go_wp2_with fail
            go_roundw
            case rel => exact ⟨j, by omega, by omega, by go_num, st, fun k h4 h5 => by
              by_cases e : k = j
              · rw [e]; exact Nat.le_of_lt hcmp
              · exact hk k (by omega) h5⟩
            case measure => simp [intOf]
          · have D := done (fun k h4 h5 => by
              have : (g k).fr ≤ (g j).fr := hs.le h4 (by omega) (by omega)
              omega)
            have hc0 : (0 : Int) ≤ cmpv (g i).fr (g j).fr := cmpv_ge (by omega)
            obtain ⟨c, hc⟩ : ∃ c, cmpv (g i).fr (g j).fr = c := ⟨_, rfl⟩
            rw [hc] at hc0
            have HC : Hid (cmpv (g i).fr (g j).fr = c) := hc
            clear hc
            go_wp2_with fail
            go_region_held3 (fun w' => w'.cell? ⟨B, (j + 1) * 3, none⟩ = some (.int .i32 (g i).fr) ∧ w'.cell? ⟨B, (j + 1) * 3 + 1, none⟩ = some (.int .u8 (g i).b) ∧ w'.cell? ⟨B, (j + 1) * 3 + 2, none⟩ = some (.int .i32 (g i).tt) ∧
                w'.cell? ⟨B, j * 3, none⟩ = some (.int .i32 (g j).fr) ∧ w'.cell? ⟨B, j * 3 + 1, none⟩ = some (.int .u8 (g j).b) ∧ w'.cell? ⟨B, j * 3 + 2, none⟩ = some (.int .i32 (g j).tt))
              (first | exact cells _ hw.drew | exact cells _ h1 | go_keep)
              (first | (go_at_call 19; refine (less_call (g i) (g j) c HC.out hw.drew).mono ?_; rintro e w1 ⟨rfl, h1⟩))
            clear cells done hw
            go_wp2_with fail
            go_roundw
            case rel => exact ⟨i + 1, _, by omega, .inl (by omega), by go_num, h1, D.1, D.2⟩
            case measure => simp [intOf]; omega
        · have D := done (fun k h4 h5 => by omega)
          have hgd : (j : Int) ≤ (a : Int) := by omega
          have h1 := hw.drew
          go_wp2_with fail
          go_region
          clear done hw
          go_wp2_with fail
          go_roundw
          case rel => exact ⟨i + 1, _, by omega, .inl (by omega), by go_num, h1, D.1, D.2⟩
          case measure => simp [intOf]; omega
    · have hI : (b : Int) ≤ (i : Int) := by omega
      rw [show min i b = b from by omega] at hs
      go_wp2_with fail
      go_end0
      exact ⟨rfl, g, hw, hp, hs⟩
end Go.Proofs.Ybulkckss
