import Derived.Test.YbulkckssCmp
namespace Go.Proofs.Ybulkckss
open Go.RowKit

/-- the row of edges lies in block B -/
def RowE (B n : Nat) (f : Nat → Ed) (w : World) : Prop := tyOf w B = some 56 ∧ ∀ k, k < n → w.cell? ⟨B, k * 3, none⟩ = some (.int .i32 (f k).fr) ∧ w.cell? ⟨B, k * 3 + 1, none⟩ = some (.int .u8 (f k).b) ∧ w.cell? ⟨B, k * 3 + 2, none⟩ = some (.int .i32 (f k).tt)
/-- .. and all else is as it was -/
structure EW (w0 : World) (B n : Nat) (f : Nat → Ed) (w : World) : Prop where
  kept : Kept (fun k => k = B) w0 w
  row : RowE B n f w
variable {w0 w w' : World} {B n : Nat} {f : Nat → Ed}

theorem RowE.congr (h : RowE B n f w) (e : w'.heap[B]? = w.heap[B]?) : RowE B n f w' :=
  ⟨(tyOf_congr e).trans h.1, fun k hk => ⟨(World.cell?_of_block e).trans (h.2 k hk).1, (World.cell?_of_block e).trans (h.2 k hk).2.1, (World.cell?_of_block e).trans (h.2 k hk).2.2⟩⟩
theorem EW.new (h : EW w0 B n f w) (hb : Below w.heap.size w w') : EW w0 B n f w' := ⟨h.kept.trans (Kept.new hb), h.row.congr (hb.block _ (tyOf_lt h.row.1))⟩
theorem EW.drew (h : EW w0 B n f w) : EW w0 B n f w.drew := h.new (Below.refl _ _).drew
/-- an element is stored -/
def put3 (w : World) (B i : Nat) (e : Ed) : World := ((w.setCell ⟨B, i * 3, none⟩ (.int .i32 e.fr)).setCell ⟨B, i * 3 + 1, none⟩ (.int .u8 e.b)).setCell ⟨B, i * 3 + 2, none⟩ (.int .i32 e.tt)
theorem EW.put (h : EW w0 B n f w) (i : Nat) (e : Ed) : EW w0 B n (fun k => if k = i then e else f k) (put3 w B i e) := by
  have t1 := h.row.1
  have t2 : tyOf (w.setCell ⟨B, i * 3, none⟩ (.int .i32 e.fr)) B = some 56 := (set_ty t1).trans t1
  have t3 : tyOf ((w.setCell ⟨B, i * 3, none⟩ (.int .i32 e.fr)).setCell ⟨B, i * 3 + 1, none⟩ (.int .u8 e.b)) B = some 56 := (set_ty t2).trans t2
  refine ⟨((h.kept.setCell rfl _).setCell rfl _).setCell rfl _, (set_ty t3).trans t3, fun k hk => ?_⟩
  obtain ⟨c0, c1, c2⟩ := h.row.2 k hk
  unfold put3
  show _ = some (Value.int .i32 (if k = i then e else f k).fr) ∧ _ = some (Value.int .u8 (if k = i then e else f k).b) ∧ _ = some (Value.int .i32 (if k = i then e else f k).tt)
  rw [set_cell (set_cell (set_cell c0)), set_cell (set_cell (set_cell c1)), set_cell (set_cell (set_cell c2))]
  by_cases ek : k = i
  · subst ek
    simp
  · simp only [if_neg ek, Addr.mk.injEq, true_and, and_true]
    rw [if_neg (by omega), if_neg (by omega), if_neg (by omega), if_neg (by omega), if_neg (by omega), if_neg (by omega), if_neg (by omega), if_neg (by omega), if_neg (by omega)]
    exact ⟨rfl, rfl, rfl⟩
theorem EW.congr {g : Nat → Ed} (h : EW w0 B n f w) (e : ∀ k, k < n → g k = f k) : EW w0 B n g w := ⟨h.kept, h.row.1, fun k hk => by rw [e k hk]; exact h.row.2 k hk⟩
theorem EW.swap1 (h : EW w0 B n f w) (i j : Nat) : EW w0 B n (swF f i j) (put3 (put3 w B i (f j)) B j (f i)) := by
  refine ((h.put i (f j)).put j (f i)).congr (fun k _ => ?_)
  unfold swF
  by_cases e1 : k = j
  · by_cases e2 : k = i
    · have : i = j := by omega
      subst this
      rw [if_pos e2]
    · rw [if_neg e2, if_pos e1, if_pos e1]
  · by_cases e2 : k = i
    · rw [if_pos e2, if_neg e1, if_pos e2]
    · rw [if_neg e2, if_neg e1, if_neg e1, if_neg e2]
theorem EW.swap2 (h : EW w0 B n f w) (i j : Nat) : EW w0 B n (swF f i j) (put3 (put3 w B j (f i)) B i (f j)) := by
  refine ((h.put j (f i)).put i (f j)).congr (fun k _ => ?_)
  unfold swF
  rfl

set_option maxHeartbeats 4000000 in
set_option maxRecDepth 100000 in
/-- swapRange -/
theorem swapRange_call (cap a b m : Nat) (fv : Value) (hn : n ≤ 65536) (hab : a + m ≤ b) (hb : b + m ≤ n) (h : EW w0 B n f w) :
    Calls Yba.prog 49 #[.slice (some ⟨B, 0, none⟩) n cap, .int .i64 a, .int .i64 b, .int .i64 m, fv] w fun e w' => e = .returned (.tuple #[]) ∧ EW w0 B n (srF f a b m) w' := by
  have hnI : (n : Int) ≤ 65536 := by omega
  have haI : (a : Int) ≤ 65536 := by omega
  have hbI : (b : Int) ≤ 65536 := by omega
  have hmI : (m : Int) ≤ 65536 := by omega
  go_enter Yba.func49, Yba.ntmps49
  go_wp2_with fail
  go_loopw [10] (fun x wr => ∃ i : Nat, i ≤ m ∧ x = .int .i64 i ∧ EW w0 B n (srF f a b i) wr) (fun x _ => m - (intOf x).toNat)
  case atStart => exact ⟨0, by omega, rfl, by rw [srF_zero]; exact h⟩
  case round =>
    obtain ⟨i, hi, rfl, hw⟩ := hrel
    by_cases hlt : i < m
    · have hI : (i : Int) < (m : Int) := by omega
      have hA : (a : Int) + (i : Int) < (n : Int) := by omega
      have hB : (b : Int) + (i : Int) < (n : Int) := by omega
      obtain ⟨p0, p1, p2⟩ := hw.row.2 (a + i) (by omega)
      obtain ⟨q0, q1, q2⟩ := hw.row.2 (b + i) (by omega)
      have fz := tyOf_frozen hw.row.1
      go_wp2_with fail
      go_region
      have st : EW w0 B n (srF f a b (i + 1)) (put3 (put3 wr B (a + i) (srF f a b i (b + i))) B (b + i) (srF f a b i (a + i))).drew := by
        rw [← srF_step f (by omega)]
        exact (hw.swap1 (a + i) (b + i)).drew
      clear p0 p1 p2 q0 q1 q2 fz
      go_wp2_with fail
      go_roundw
      case rel => exact ⟨i + 1, by omega, by go_num, st⟩
      case measure => simp [intOf]; omega
    · have e : i = m := by omega
      subst e
      go_wp2_with fail
      go_end0
      exact ⟨rfl, hw⟩

set_option maxHeartbeats 4000000 in
set_option maxRecDepth 100000 in
/-- rotate -/
theorem rotate_call (cap a m b : Nat) (fv : Value) (hn : n ≤ 65536) (ham : a < m) (hmb : m < b) (hb : b ≤ n) (h : EW w0 B n f w) :
    Calls Yba.prog 47 #[.slice (some ⟨B, 0, none⟩) n cap, .int .i64 a, .int .i64 m, .int .i64 b, fv] w fun e w' => e = .returned (.tuple #[]) ∧ EW w0 B n (rotF f a m b) w' := by
  have hmI : (m : Int) ≤ 65536 := by omega
  have haI : (a : Int) < (m : Int) := by omega
  have hbI : (m : Int) < (b : Int) := by omega
  have hbI2 : (b : Int) ≤ 65536 := by omega
  go_enter Yba.func47, Yba.ntmps47
  go_wp2_with fail
  go_loopw [10, 11] (fun x y wr => ∃ (i j : Nat) (g : Nat → Ed), 1 ≤ i ∧ 1 ≤ j ∧ i ≤ m ∧ m + j ≤ n ∧ x = .int .i64 i ∧ y = .int .i64 j ∧ EW w0 B n g wr ∧ rotF g (m - i) m (m + j) = rotF f a m b) (fun x y _ => (intOf x).toNat + (intOf y).toNat)
  case atStart => exact ⟨m - a, b - m, f, by omega, by omega, by omega, by omega, by go_num, by go_num, h, by rw [show m - (m - a) = a from by omega, show m + (b - m) = b from by omega]⟩
  case round =>
    obtain ⟨i, j, g, hi, hj, him, hjn, rfl, rfl, hw, hr⟩ := hrel
    have HR : Hid (rotF g (m - i) m (m + j) = rotF f a m b) := hr
    clear hr
    have e1 : ((m - i : Nat) : Int) = (m : Int) - (i : Int) := by omega
    have e2 : ((m + j - i : Nat) : Int) = (m : Int) + (j : Int) - (i : Int) := by omega
    by_cases hij : i = j
    · subst hij
      have S := swapRange_call cap (m - i) m i fv hn (by omega) (by omega) hw
      rw [e1] at S
      have hiI : (i : Int) ≤ (m : Int) := by omega
      go_wp2_with fail
      refine S.mono ?_
      rintro e w' ⟨rfl, hw'⟩
      rw [rotF_even g him, HR.out] at hw'
      go_wp2_with fail
      go_end0
      exact ⟨rfl, hw'⟩
    · have hne : ((i : Int) == (j : Int)) = false := by simp; omega
      have hiI : (i : Int) ≤ (m : Int) := by omega
      have hjI : (j : Int) ≤ 65536 := by omega
      by_cases hgt : j < i
      · have hg : (j : Int) < (i : Int) := by omega
        have S := swapRange_call cap (m - i) m j fv hn (by omega) (by omega) hw
        rw [e1] at S
        go_wp2_with fail
        refine S.mono ?_
        rintro e w' ⟨rfl, hw'⟩
        have hr2 : rotF (srF g (m - i) m j) (m - (i - j)) m (m + j) = rotF f a m b := by
          rw [show m - (i - j) = m - i + j from by omega, rotF_left g him hgt]; exact HR.out
        clear S
        go_wp2_with fail
        go_roundw
        case rel => exact ⟨i - j, j, _, by omega, hj, by omega, hjn, by go_num, by go_num, hw', hr2⟩
        case measure => simp [intOf]; omega
      · have hg : (i : Int) < (j : Int) := by omega
        have S := swapRange_call cap (m - i) (m + j - i) i fv hn (by omega) (by omega) hw
        rw [e1, e2] at S
        go_wp2_with fail
        refine S.mono ?_
        rintro e w' ⟨rfl, hw'⟩
        have hr2 : rotF (srF g (m - i) (m + j - i) i) (m - i) m (m + (j - i)) = rotF f a m b := by
          rw [rotF_right g him (by omega)]; exact HR.out
        clear S
        go_wp2_with fail
        go_roundw
        case rel => exact ⟨i, j - i, _, hi, by omega, him, by omega, by go_num, by go_num, hw', hr2⟩
        case measure => simp [intOf]; omega
end Go.Proofs.Ybulkckss
