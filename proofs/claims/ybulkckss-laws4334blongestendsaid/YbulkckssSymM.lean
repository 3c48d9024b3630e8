import Derived.Test.YbulkckssIns
namespace Go.Proofs.Ybulkckss
open Go.RowKit
variable {w0 w w' : World} {B n : Nat} {f : Nat → Ed}

theorem cmpv_cases {x y : Nat} (h : y ≤ x) : ∃ c, cmpv x y = c ∧ (c = 0 ∨ c = 1) := by
  refine ⟨_, rfl, ?_⟩
  unfold cmpv
  rw [if_neg (by omega)]
  split
  · exact .inr rfl
  · exact .inl rfl
/-- the cells of two elements -/
theorem EW.two (h : EW w0 B n f w) {x y : Nat} (hx : x < n) (hy : y < n) : w.cell? ⟨B, x * 3, none⟩ = some (.int .i32 (f x).fr) ∧ w.cell? ⟨B, x * 3 + 1, none⟩ = some (.int .u8 (f x).b) ∧ w.cell? ⟨B, x * 3 + 2, none⟩ = some (.int .i32 (f x).tt) ∧
    w.cell? ⟨B, y * 3, none⟩ = some (.int .i32 (f y).fr) ∧ w.cell? ⟨B, y * 3 + 1, none⟩ = some (.int .u8 (f y).b) ∧ w.cell? ⟨B, y * 3 + 2, none⟩ = some (.int .i32 (f y).tt) :=
  ⟨(h.row.2 x hx).1, (h.row.2 x hx).2.1, (h.row.2 x hx).2.2, (h.row.2 y hy).1, (h.row.2 y hy).2.1, (h.row.2 y hy).2.2⟩

set_option maxHeartbeats 8000000 in
set_option maxRecDepth 100000 in
/-- the first run has one element -/
theorem sym_one (cap a b : Nat) (hn : n ≤ 65536) (hab : a + 1 < b) (hb : b ≤ n) (h : EW w0 B n f w) (hs : SortF Ed.fr (a + 1) b f) :
    Calls Yba.prog 41 #[.slice (some ⟨B, 0, none⟩) n cap, .int .i64 a, .int .i64 ((a : Int) + 1), .int .i64 b, cmpV] w fun e w' => e = .returned (.tuple #[]) ∧ ∃ g, EW w0 B n g w' ∧ PermF a b f g ∧ SortF Ed.fr a b g := by
  have hbI : (b : Int) ≤ 65536 := by omega
  have haI : (a : Int) + 1 < (b : Int) := by omega
  have han : (a : Int) < (n : Int) := by omega
  have h11 : (a : Int) + 1 - (a : Int) = 1 := by omega
  go_enter Yba.func41, Yba.ntmps41
  go_wp2_with fail
  go_loopw [10, 11, 12] (fun x y _ wr => ∃ i j : Nat, a + 1 ≤ i ∧ i ≤ j ∧ j ≤ b ∧ x = .int .i64 i ∧ y = .int .i64 j ∧ EW w0 B n f wr ∧ (∀ k, a + 1 ≤ k → k < i → (f k).fr ≤ (f a).fr) ∧ ∀ k, j ≤ k → k < b → (f a).fr ≤ (f k).fr) (fun x y _ _ => (intOf y).toNat - (intOf x).toNat)
  case atStart => exact ⟨a + 1, b, by omega, by omega, by omega, by go_num, rfl, h, fun k h1 h2 => by omega, fun k h1 h2 => by omega⟩
  case round =>
    clear h
    obtain ⟨i, j, hi, hij, hj, rfl, rfl, hw, hlo, hhi⟩ := hrel
    by_cases hlt : i < j
    · have hI : (i : Int) < (j : Int) := by omega
      have hJ : (j : Int) ≤ 65536 := by omega
      have hI0 : (0 : Int) ≤ (i : Int) := by omega
      obtain ⟨h, eh, h1, h2⟩ : ∃ h : Nat, ((i : Int) + (j : Int)) / 2 = (h : Int) ∧ i ≤ h ∧ h < j := ⟨(i + j) / 2, by omega, by omega, by omega⟩
      have hhn : (h : Int) < (n : Int) := by omega
      have hhn2 : (h : Int) ≤ 65536 := by omega
      have hh0 : (0 : Int) ≤ (h : Int) := by omega
      have ha0 : (0 : Int) ≤ (a : Int) := by omega
      by_cases hcmp : (f h).fr < (f a).fr
      · go_wp2_with fail
        go_region_held3 (fun w' => w'.cell? ⟨B, h * 3, none⟩ = some (.int .i32 (f h).fr) ∧ w'.cell? ⟨B, h * 3 + 1, none⟩ = some (.int .u8 (f h).b) ∧ w'.cell? ⟨B, h * 3 + 2, none⟩ = some (.int .i32 (f h).tt) ∧ w'.cell? ⟨B, a * 3, none⟩ = some (.int .i32 (f a).fr) ∧ w'.cell? ⟨B, a * 3 + 1, none⟩ = some (.int .u8 (f a).b) ∧ w'.cell? ⟨B, a * 3 + 2, none⟩ = some (.int .i32 (f a).tt))
          (first | exact hw.drew.two (by omega) (by omega) | exact hw1.two (by omega) (by omega) | go_keep)
          (first | (go_at_call 19; refine (less_call (f h) (f a) (-1) (cmpv_lt hcmp) hw.drew).mono ?_; rintro e w1 ⟨rfl, hw1⟩))
        go_wp2_with fail
        go_roundw
        case rel => exact ⟨h + 1, j, by omega, by omega, hj, by go_num, by go_num, hw1, fun k k1 k2 => by
          have : (f k).fr ≤ (f h).fr := hs.le k1 (by omega) (by omega)
          omega, hhi⟩
        case measure => simp [intOf]; omega
      · have hc0 : (0 : Int) ≤ cmpv (f h).fr (f a).fr := cmpv_ge (by omega)
        obtain ⟨c, hc⟩ : ∃ c, cmpv (f h).fr (f a).fr = c := ⟨_, rfl⟩
        rw [hc] at hc0
        have HC : Hid (cmpv (f h).fr (f a).fr = c) := hc
        clear hc
        go_wp2_with fail
        go_region_held3 (fun w' => w'.cell? ⟨B, h * 3, none⟩ = some (.int .i32 (f h).fr) ∧ w'.cell? ⟨B, h * 3 + 1, none⟩ = some (.int .u8 (f h).b) ∧ w'.cell? ⟨B, h * 3 + 2, none⟩ = some (.int .i32 (f h).tt) ∧ w'.cell? ⟨B, a * 3, none⟩ = some (.int .i32 (f a).fr) ∧ w'.cell? ⟨B, a * 3 + 1, none⟩ = some (.int .u8 (f a).b) ∧ w'.cell? ⟨B, a * 3 + 2, none⟩ = some (.int .i32 (f a).tt))
          (first | exact hw.drew.two (by omega) (by omega) | exact hw1.two (by omega) (by omega) | go_keep)
          (first | (go_at_call 19; refine (less_call (f h) (f a) c HC.out hw.drew).mono ?_; rintro e w1 ⟨rfl, hw1⟩))
        go_wp2_with fail
        go_roundw
        case rel => exact ⟨i, h, by omega, by omega, by omega, by go_num, by go_num, hw1, hlo, fun k k1 k2 => by
          have : (f h).fr ≤ (f k).fr := hs.le (by omega) k1 k2
          omega⟩
        case measure => simp [intOf]; omega
    · have e : j = i := by omega
      subst e
      have fin := ins_left hs hi hj hlo hhi
      have per : PermF a b f (rotF f a (a + 1) j) := (rotF_perm f (by omega) hi).mono (Nat.le_refl _) hj
      have hjI : (j : Int) ≤ 65536 := by omega
      have hjI2 : (a : Int) + 1 ≤ (j : Int) := by omega
      clear hlo hhi hs hlt hij
      go_wp2_with fail
      go_loopw [13] (fun x wr => ∃ k : Nat, a ≤ k ∧ k + 1 ≤ j ∧ x = .int .i64 k ∧ EW w0 B n (rotF f a (a + 1) (k + 1)) wr) (fun x _ => 65536 - (intOf x).toNat)
      case atStart => exact ⟨a, by omega, by omega, rfl, by rw [rotF_nil]; exact hw⟩
      case round =>
        clear hw
        obtain ⟨k, hk1, hk2, rfl, hw⟩ := hrel
        by_cases hlt : k + 1 < j
        · have hkI : (k : Int) < (j : Int) - 1 := by omega
          have hwp : IntKind.i64.wrap ((k : Int) + 1) = (k : Int) + 1 := by rw [IntKind.wrap_i64]; omega
          have jz : (k : Int) + 1 < (n : Int) := by omega
          have jz1 : (k : Int) < (n : Int) := by omega
          have hp0 : (0 : Int) ≤ (k : Int) + 1 := by omega
          have e0 : ((k : Int) + 1).toNat = k + 1 := by omega
          obtain ⟨p0, p1, p2, q0, q1, q2⟩ := hw.two (x := k) (y := k + 1) (by omega) (by omega)
          have fz := tyOf_frozen hw.row.1
          have st : EW w0 B n (rotF f a (a + 1) (k + 2)) (put3 (put3 wr B k (rotF f a (a + 1) (k + 1) (k + 1))) B (k + 1) (rotF f a (a + 1) (k + 1) k)).drew := by
            rw [← ins_up f hk1]; exact (hw.swap1 k (k + 1)).drew
          go_wp2_with fail
          go_region
          clear p0 p1 p2 q0 q1 q2 fz hw
          go_wp2_with fail
          go_roundw
          case rel => exact ⟨k + 1, by omega, by omega, by go_num, st⟩
          case measure => simp [intOf]; omega
        · have e : j = k + 1 := by omega
          subst e
          have hkI : ((k + 1 : Nat) : Int) - 1 ≤ (k : Int) := by omega
          go_wp2_with fail
          (try simp only [Exit.inBlock, Exit.then])
          refine bodyPost_ret (results_none rfl _ _ _) rfl ?_
          exact ⟨rfl, _, hw, per, fin⟩

set_option maxHeartbeats 8000000 in
set_option maxRecDepth 100000 in
/-- the second run has one element -/
theorem sym_last (cap a m : Nat) (hn : n ≤ 65536) (ham : a + 1 < m) (hb : m + 1 ≤ n) (h : EW w0 B n f w) (hs : SortF Ed.fr a m f) :
    Calls Yba.prog 41 #[.slice (some ⟨B, 0, none⟩) n cap, .int .i64 a, .int .i64 m, .int .i64 ((m : Int) + 1), cmpV] w fun e w' => e = .returned (.tuple #[]) ∧ ∃ g, EW w0 B n g w' ∧ PermF a (m + 1) f g ∧ SortF Ed.fr a (m + 1) g := by
  have hmI : (m : Int) + 1 ≤ 65536 := by omega
  have haI : (a : Int) + 1 < (m : Int) := by omega
  have hmn : (m : Int) < (n : Int) := by omega
  have hm0 : (0 : Int) ≤ (m : Int) := by omega
  have hne : (((m : Int) - (a : Int)) == 1) = false := by simp; omega
  have h11 : (m : Int) + 1 - (m : Int) = 1 := by omega
  go_enter Yba.func41, Yba.ntmps41
  go_wp2_with fail
  go_loopw [14, 15, 16] (fun x y _ wr => ∃ i j : Nat, a ≤ i ∧ i ≤ j ∧ j ≤ m ∧ x = .int .i64 i ∧ y = .int .i64 j ∧ EW w0 B n f wr ∧ (∀ k, a ≤ k → k < i → (f k).fr ≤ (f m).fr) ∧ ∀ k, j ≤ k → k < m → (f m).fr ≤ (f k).fr) (fun x y _ _ => (intOf y).toNat - (intOf x).toNat)
  case atStart => exact ⟨a, m, by omega, by omega, by omega, rfl, rfl, h, fun k h1 h2 => by omega, fun k h1 h2 => by omega⟩
  case round =>
    clear h
    obtain ⟨i, j, hi, hij, hj, rfl, rfl, hw, hlo, hhi⟩ := hrel
    by_cases hlt : i < j
    · have hI : (i : Int) < (j : Int) := by omega
      have hJ : (j : Int) ≤ 65536 := by omega
      have hI0 : (0 : Int) ≤ (i : Int) := by omega
      obtain ⟨h, eh, h1, h2⟩ : ∃ h : Nat, ((i : Int) + (j : Int)) / 2 = (h : Int) ∧ i ≤ h ∧ h < j := ⟨(i + j) / 2, by omega, by omega, by omega⟩
      have hhn : (h : Int) < (n : Int) := by omega
      have hhn2 : (h : Int) ≤ 65536 := by omega
      have hh0 : (0 : Int) ≤ (h : Int) := by omega
      by_cases hcmp : (f m).fr < (f h).fr
      · go_wp2_with fail
        go_region_held3 (fun w' => w'.cell? ⟨B, m * 3, none⟩ = some (.int .i32 (f m).fr) ∧ w'.cell? ⟨B, m * 3 + 1, none⟩ = some (.int .u8 (f m).b) ∧ w'.cell? ⟨B, m * 3 + 2, none⟩ = some (.int .i32 (f m).tt) ∧ w'.cell? ⟨B, h * 3, none⟩ = some (.int .i32 (f h).fr) ∧ w'.cell? ⟨B, h * 3 + 1, none⟩ = some (.int .u8 (f h).b) ∧ w'.cell? ⟨B, h * 3 + 2, none⟩ = some (.int .i32 (f h).tt))
          (first | exact hw.drew.two (by omega) (by omega) | exact hw1.two (by omega) (by omega) | go_keep)
          (first | (go_at_call 19; refine (less_call (f m) (f h) (-1) (cmpv_lt hcmp) hw.drew).mono ?_; rintro e w1 ⟨rfl, hw1⟩))
        go_wp2_with fail
        go_roundw
        case rel => exact ⟨i, h, by omega, by omega, by omega, by go_num, by go_num, hw1, hlo, fun k k1 k2 => by
          have : (f h).fr ≤ (f k).fr := hs.le (by omega) k1 k2
          omega⟩
        case measure => simp [intOf]; omega
      · obtain ⟨c, hc, h01⟩ := cmpv_cases (x := (f m).fr) (y := (f h).fr) (by omega)
        have HC : Hid (cmpv (f m).fr (f h).fr = c) := hc
        clear hc
        rcases h01 with rfl | rfl
        all_goals
          go_wp2_with fail
          go_region_held3 (fun w' => w'.cell? ⟨B, m * 3, none⟩ = some (.int .i32 (f m).fr) ∧ w'.cell? ⟨B, m * 3 + 1, none⟩ = some (.int .u8 (f m).b) ∧ w'.cell? ⟨B, m * 3 + 2, none⟩ = some (.int .i32 (f m).tt) ∧ w'.cell? ⟨B, h * 3, none⟩ = some (.int .i32 (f h).fr) ∧ w'.cell? ⟨B, h * 3 + 1, none⟩ = some (.int .u8 (f h).b) ∧ w'.cell? ⟨B, h * 3 + 2, none⟩ = some (.int .i32 (f h).tt))
            (first | exact hw.drew.two (by omega) (by omega) | exact hw1.two (by omega) (by omega) | go_keep)
            (first | (go_at_call 19; refine (less_call (f m) (f h) _ HC.out hw.drew).mono ?_; rintro e w1 ⟨rfl, hw1⟩))
          go_wp2_with fail
          go_roundw
          case rel => exact ⟨h + 1, j, by omega, by omega, hj, by go_num, by go_num, hw1, fun k k1 k2 => by
            have : (f k).fr ≤ (f h).fr := hs.le k1 (by omega) (by omega)
            omega, hhi⟩
          case measure => simp [intOf]; omega
    · have e : j = i := by omega
      subst e
      have fin := ins_right hs hi hj hlo hhi
      have per : PermF a (m + 1) f (rotF f j m (m + 1)) := (rotF_perm f hj (by omega)).mono hi (Nat.le_refl _)
      have hjI : (j : Int) ≤ (m : Int) := by omega
      have hjI0 : (0 : Int) ≤ (j : Int) := by omega
      clear hlo hhi hs hlt hij
      go_wp2_with fail
      go_loopw [17] (fun x wr => ∃ k : Nat, j ≤ k ∧ k ≤ m ∧ x = .int .i64 k ∧ EW w0 B n (rotF f k m (m + 1)) wr) (fun x _ => (intOf x).toNat)
      case atStart => exact ⟨m, by omega, by omega, rfl, by rw [rotF_nil2 f (by omega)]; exact hw⟩
      case round =>
        clear hw
        obtain ⟨k, hk1, hk2, rfl, hw⟩ := hrel
        by_cases hlt : j < k
        · obtain ⟨k, rfl⟩ : ∃ k', k = k' + 1 := ⟨k - 1, by omega⟩
          have hkI : (j : Int) < (k : Int) + 1 := by omega
          have hwp : IntKind.i64.wrap (k : Int) = (k : Int) := by rw [IntKind.wrap_i64]; omega
          have jz : (k : Int) + 1 < (n : Int) := by omega
          have jz1 : (k : Int) < (n : Int) := by omega
          have hp0 : (0 : Int) ≤ (k : Int) + 1 := by omega
          have e0 : ((k : Int) + 1).toNat = k + 1 := by omega
          obtain ⟨p0, p1, p2, q0, q1, q2⟩ := hw.two (x := k + 1) (y := k) (by omega) (by omega)
          have fz := tyOf_frozen hw.row.1
          have st : EW w0 B n (rotF f k m (m + 1)) (put3 (put3 wr B (k + 1) (rotF f (k + 1) m (m + 1) k)) B k (rotF f (k + 1) m (m + 1) (k + 1))).drew := by
            have h3 := ins_down f (k := k + 1) (m := m) (by omega) hk2
            rw [show k + 1 - 1 = k from by omega] at h3
            rw [← h3]; exact (hw.swap1 (k + 1) k).drew
          go_wp2_with fail
          go_region
          clear p0 p1 p2 q0 q1 q2 fz hw
          go_wp2_with fail
          go_roundw
          case rel => exact ⟨k, by omega, by omega, by go_num, st⟩
          case measure => simp [intOf]
        · have e : j = k := by omega
          subst e
          go_wp2_with fail
          (try simp only [Exit.inBlock, Exit.then])
          refine bodyPost_ret (results_none rfl _ _ _) rfl ?_
          exact ⟨rfl, _, hw, per, fin⟩
end Go.Proofs.Ybulkckss
