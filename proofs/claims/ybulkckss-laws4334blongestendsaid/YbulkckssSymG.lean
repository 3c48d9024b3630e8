import Derived.Test.YbulkckssSymM
import Derived.Deep.CutRange
namespace Go.Proofs.Ybulkckss
open Go.RowKit
variable {w0 w w' : World} {B n : Nat} {f : Nat → Ed}

theorem wrap_nat {q : Nat} (h : q ≤ 131072) : IntKind.i64.wrap (q : Int) = (q : Int) := by rw [IntKind.wrap_i64]; omega
def SymAt (w0 : World) (B n cap a m b : Nat) : Prop := ∀ (f : Nat → Ed) (w : World), SortF Ed.fr a m f → SortF Ed.fr m b f → EW w0 B n f w →
  Calls Yba.prog 41 #[.slice (some ⟨B, 0, none⟩) n cap, .int .i64 a, .int .i64 m, .int .i64 b, cmpV] w fun e w' => e = .returned (.tuple #[]) ∧ ∃ g, EW w0 B n g w' ∧ PermF a b f g ∧ SortF Ed.fr a b g

set_option maxHeartbeats 8000000 in
set_option maxRecDepth 100000 in
theorem sym_gen (cap a m b : Nat) (hn : n ≤ 65536) (ham : a + 1 < m) (hmb : m + 1 < b) (hb : b ≤ n) (ih : ∀ a' m' b', a' < m' → m' < b' → b' ≤ n → b' - a' < b - a → SymAt w0 B n cap a' m' b') : SymAt w0 B n cap a m b := by
  intro f w r1 r2 h
  obtain ⟨mid, em, hmid⟩ : ∃ mid : Nat, ((a : Int) + (b : Int)) / 2 = (mid : Int) ∧ mid = (a + b) / 2 := ⟨(a + b) / 2, by omega, rfl⟩
  have hne : (((m : Int) - (a : Int)) == 1) = false := by simp; omega
  have hne2 : (((b : Int) - (m : Int)) == 1) = false := by simp; omega
  have hbI : (b : Int) ≤ 65536 := by omega
  have hmI : (m : Int) < (b : Int) := by omega
  have haI : (a : Int) < (m : Int) := by omega
  have hmidI : (mid : Int) < (b : Int) := by omega
  have hmid0 : (0 : Int) ≤ (mid : Int) := by omega
  obtain ⟨s0, r0, hs0, hr0⟩ : ∃ s0 r0 : Nat, s0 = (if m > mid then mid + m - b else a) ∧ r0 = (if m > mid then mid else m) := ⟨_, _, rfl, rfl⟩
  have HS : Hid (s0 = (if m > mid then mid + m - b else a)) := hs0
  have HR : Hid (r0 = (if m > mid then mid else m)) := hr0
  have HM : Hid (mid = (a + b) / 2) := hmid
  have bs : a ≤ s0 ∧ s0 ≤ r0 ∧ r0 ≤ m ∧ r0 ≤ mid ∧ mid + m ≤ s0 + b ∧ m + r0 ≤ mid + m ∧ a < mid ∧ mid < b := by
    by_cases c : m > mid
    · rw [if_pos c] at hs0 hr0; omega
    · rw [if_neg c] at hs0 hr0; omega
  obtain ⟨b1, b2, b3, b4, b5, b6, b7, b8⟩ := bs
  clear hs0 hr0 hmid
  go_enter Yba.func41, Yba.ntmps41
  go_upto_if 140 with fail
  go_cut [20, 21] from 141 to 146 (fun x y wc => x = .int .i64 s0 ∧ y = .int .i64 r0 ∧ wc = w)
  case first =>
    by_cases c : m > mid
    · have hc : (mid : Int) < (m : Int) := by omega
      have e1 : Hid ((s0 : Int) = (mid : Int) + (m : Int) - (b : Int)) := by show _ = _; rw [HS.out, if_pos c]; omega
      have e2 : Hid (r0 = mid) := by show _ = _; rw [HR.out, if_pos c]
      go_wp2_with fail
      go_meet
      exact ⟨by rw [e1.out], by rw [e2.out], rfl⟩
    · have hc : (m : Int) ≤ (mid : Int) := by omega
      have e1 : Hid (s0 = a) := by show _ = _; rw [HS.out, if_neg c]
      have e2 : Hid (r0 = m) := by show _ = _; rw [HR.out, if_neg c]
      go_wp2_with fail
      go_meet
      exact ⟨by rw [e1.out], by rw [e2.out], rfl⟩
  case rest =>
    obtain ⟨rfl, rfl, rfl⟩ := hcut
    obtain ⟨p, ep, hp⟩ : ∃ p : Nat, (mid : Int) + (m : Int) - 1 = (p : Int) ∧ p = mid + m - 1 := ⟨mid + m - 1, by omega, rfl⟩
    have HP : Hid (p = mid + m - 1) := hp
    have mono : ∀ c c', s0 ≤ c → c ≤ c' → c' < r0 → (f c).fr ≤ (f c').fr ∧ (f (p - c')).fr ≤ (f (p - c)).fr := fun c c' h1 h2 h3 =>
      ⟨r1.le (by omega) h2 (by omega), r2.le (by omega) (by omega) (by omega)⟩
    have rng : ∀ c, s0 ≤ c → c < r0 → c < n ∧ p - c < n ∧ c ≤ p := fun c h1 h2 => by omega
    have pI : (p : Int) ≤ 131072 := by omega
    have s0I : (0 : Int) ≤ (s0 : Int) := by omega
    have r0I : (r0 : Int) ≤ 65536 := by omega
    clear hp
    go_wp2_with fail
    go_loopw [20, 21, 23] (fun x y _ wr => ∃ s r : Nat, s0 ≤ s ∧ s ≤ r ∧ r ≤ r0 ∧ x = .int .i64 s ∧ y = .int .i64 r ∧ EW w0 B n f wr ∧ (∀ c, s0 ≤ c → c < s → (f c).fr ≤ (f (p - c)).fr) ∧ ∀ c, r ≤ c → c < r0 → (f (p - c)).fr ≤ (f c).fr) (fun x y _ _ => (intOf y).toNat - (intOf x).toNat)
    case atStart => exact ⟨s0, r0, by omega, b2, by omega, rfl, rfl, h, fun c h1 h2 => by omega, fun c h1 h2 => by omega⟩
    case round =>
      clear h
      obtain ⟨s, r, q1, q2, q3, rfl, rfl, hw, hlo, hhi⟩ := hrel
      by_cases hlt : s < r
      · have hI : (s : Int) < (r : Int) := by omega
        have hJ : (r : Int) ≤ 65536 := by omega
        have hI0 : (0 : Int) ≤ (s : Int) := by omega
        obtain ⟨c, ec, c1, c2⟩ : ∃ c : Nat, ((s : Int) + (r : Int)) / 2 = (c : Int) ∧ s ≤ c ∧ c < r := ⟨(s + r) / 2, by omega, by omega, by omega⟩
        obtain ⟨g1, g2, g3⟩ := rng c (by omega) (by omega)
        obtain ⟨q, eq, hq⟩ : ∃ q : Nat, (p : Int) - (c : Int) = (q : Int) ∧ q = p - c := ⟨p - c, by omega, rfl⟩
        have HQ : Hid (q = p - c) := hq
        have hqn : q < n := by omega
        have hcn : (c : Int) < (n : Int) := by omega
        have hcn2 : (c : Int) ≤ 65536 := by omega
        have hc0 : (0 : Int) ≤ (c : Int) := by omega
        have hqn2 : (q : Int) < (n : Int) := by omega
        have hq0 : (0 : Int) ≤ (q : Int) := by omega
        have hwq : IntKind.i64.wrap (q : Int) = (q : Int) := wrap_nat (by omega)
        clear hq
        by_cases hcmp : (f q).fr < (f c).fr
        · go_wp2_with fail
          go_region_held3 (fun w' => w'.cell? ⟨B, q * 3, none⟩ = some (.int .i32 (f q).fr) ∧ w'.cell? ⟨B, q * 3 + 1, none⟩ = some (.int .u8 (f q).b) ∧ w'.cell? ⟨B, q * 3 + 2, none⟩ = some (.int .i32 (f q).tt) ∧ w'.cell? ⟨B, c * 3, none⟩ = some (.int .i32 (f c).fr) ∧ w'.cell? ⟨B, c * 3 + 1, none⟩ = some (.int .u8 (f c).b) ∧ w'.cell? ⟨B, c * 3 + 2, none⟩ = some (.int .i32 (f c).tt))
            (first | exact hw.drew.two hqn g1 | exact hw1.two hqn g1 | go_keep)
            (first | (go_at_call 19; refine (less_call (f q) (f c) (-1) (cmpv_lt hcmp) hw.drew).mono ?_; rintro e w1 ⟨rfl, hw1⟩))
          clear hwq eq ec em ep
          go_wp2_with fail
          go_roundw
          case rel => exact ⟨s, c, by omega, by omega, by omega, by go_num, by go_num, hw1, hlo, fun x x1 x2 => by
            have := mono c x (by omega) x1 x2
            rw [← HQ.out] at this
            omega⟩
          case measure => simp [intOf]; omega
        · obtain ⟨v, hv, h01⟩ := cmpv_cases (x := (f q).fr) (y := (f c).fr) (by omega)
          have HC : Hid (cmpv (f q).fr (f c).fr = v) := hv
          clear hv
          rcases h01 with rfl | rfl
          all_goals
            go_wp2_with fail
            go_region_held3 (fun w' => w'.cell? ⟨B, q * 3, none⟩ = some (.int .i32 (f q).fr) ∧ w'.cell? ⟨B, q * 3 + 1, none⟩ = some (.int .u8 (f q).b) ∧ w'.cell? ⟨B, q * 3 + 2, none⟩ = some (.int .i32 (f q).tt) ∧ w'.cell? ⟨B, c * 3, none⟩ = some (.int .i32 (f c).fr) ∧ w'.cell? ⟨B, c * 3 + 1, none⟩ = some (.int .u8 (f c).b) ∧ w'.cell? ⟨B, c * 3 + 2, none⟩ = some (.int .i32 (f c).tt))
              (first | exact hw.drew.two hqn g1 | exact hw1.two hqn g1 | go_keep)
              (first | (go_at_call 19; refine (less_call (f q) (f c) _ HC.out hw.drew).mono ?_; rintro e w1 ⟨rfl, hw1⟩))
            clear hwq eq ec em ep
            go_wp2_with fail
            go_roundw
            case rel => exact ⟨c + 1, r, by omega, by omega, by omega, by go_num, by go_num, hw1, fun x x1 x2 => by
              have := mono x c x1 (by omega) (by omega)
              rw [← HQ.out] at this
              omega, hhi⟩
            case measure => simp [intOf]; omega
      · have e : r = s := by omega
        subst e
        have HS' := HS.out
        have HR' := HR.out
        have P' := HP.out
        obtain ⟨t1, t2, t3, t4, t5, t6, tx, ts1, ts2, ts3, ts4⟩ := sym_split (key := Ed.fr) (f := f) (a := a) (m := m) (b := b) (mid := mid) (s := r) r1 r2 (by omega) HM.out (by rw [← HS']; exact q1) (by rw [← HR']; exact q3)
          (fun c x1 x2 => by rw [← P']; exact hlo c (by rw [HS']; exact x1) x2) (fun c x1 x2 => by rw [← P']; exact hhi c x1 (by rw [HR']; exact x2))
        clear HS' HR' P' hlo hhi mono rng
        obtain ⟨en, ee, hen⟩ : ∃ en : Nat, (mid : Int) + (m : Int) - (r : Int) = (en : Int) ∧ mid + m - r = en := ⟨mid + m - r, by omega, rfl⟩
        rw [hen] at t4 t5 t6 tx ts1 ts2 ts3 ts4
        have eI : (en : Int) ≤ (b : Int) := by omega
        have rI : (0 : Int) ≤ (r : Int) := by omega
        have rI2 : (r : Int) ≤ (m : Int) := by omega
        have rI3 : (m : Int) ≤ (en : Int) := by omega
        clear hen em ep hne hne2 pI s0I r0I hmid0 hlt HM HP HS HR b1 b2 b3 b4 b5 b6 q1 q2 q3 r1 r2
        go_upto_region 39 with fail
        go_cut [185] from 178 to 185 (fun v wc => v = .bool (decide (r < m ∧ m < en)) ∧ wc = wr)
        case first =>
          by_cases c1 : r < m
          · have i1 : (r : Int) < (m : Int) := by omega
            by_cases c2 : m < en
            · have i2 : (m : Int) < (en : Int) := by omega
              have e : Hid (decide (r < m ∧ m < en) = true) := by show _ = _; simp [c1, c2]
              go_wp2_with fail
              go_meet
              exact ⟨by rw [e.out], rfl⟩
            · have i2 : (en : Int) ≤ (m : Int) := by omega
              have e : Hid (decide (r < m ∧ m < en) = false) := by show _ = _; simp [c2]
              go_wp2_with fail
              go_meet
              exact ⟨by rw [e.out], rfl⟩
          · have i1 : (m : Int) ≤ (r : Int) := by omega
            have e : Hid (decide (r < m ∧ m < en) = false) := by show _ = _; simp [c1]
            go_wp2_with fail
            go_meet
            exact ⟨by rw [e.out], rfl⟩
        case rest =>
        obtain ⟨rfl, rfl⟩ := hcut
        go_upto_if 185 with fail
        go_cut [] from 185 to 191 (fun wc => EW w0 B n (rotF f r m en) wc)
        case first =>
          by_cases c1 : r < m ∧ m < en
          · have R := rotate_call cap r m en cmpV hn c1.1 c1.2 (by omega) hw
            have e : decide (r < m ∧ m < en) = true := by simp [c1]
            rw [e]
            go_wp2_with fail
            refine R.mono ?_
            rintro e w2 ⟨rfl, hw2⟩
            go_wp2_with fail
            go_meet
            exact hw2
          · have e : decide (r < m ∧ m < en) = false := by simp only [c1, decide_false]
            rw [e]
            have hw2 : EW w0 B n (rotF f r m en) wc := by
              by_cases c2 : r < m
              · rw [show en = m from by omega, rotF_nil]; exact hw
              · rw [show r = m from by omega, rotF_nil2 f t4]; exact hw
            go_wp2_with fail
            go_meet
            exact hw2
        case rest =>
          clear hw
          have hw := hcut
          clear hcut
          have per : PermF a b f (rotF f r m en) := (rotF_perm f t3 t4).mono t1 t5
          generalize rotF f r m en = g at *
          obtain ⟨wz, hwz⟩ : ∃ wz, wz = wc := ⟨_, rfl⟩
          subst hwz
          clear ee
          go_upto_region 41 with fail
          go_cut [199] from 192 to 199 (fun v wc => v = .bool (decide (a < r ∧ r < mid)) ∧ wc = wz)
          case first =>
            by_cases c1 : a < r
            · have i1 : (a : Int) < (r : Int) := by omega
              by_cases c2 : r < mid
              · have i2 : (r : Int) < (mid : Int) := by omega
                have e : Hid (decide (a < r ∧ r < mid) = true) := by show _ = _; simp [c1, c2]
                go_wp2_with fail
                go_meet
                exact ⟨by rw [e.out], rfl⟩
              · have i2 : (mid : Int) ≤ (r : Int) := by omega
                have e : Hid (decide (a < r ∧ r < mid) = false) := by show _ = _; simp [c2]
                go_wp2_with fail
                go_meet
                exact ⟨by rw [e.out], rfl⟩
            · have i1 : (r : Int) ≤ (a : Int) := by omega
              have e : Hid (decide (a < r ∧ r < mid) = false) := by show _ = _; simp [c1]
              go_wp2_with fail
              go_meet
              exact ⟨by rw [e.out], rfl⟩
          case rest =>
          obtain ⟨rfl, rfl⟩ := hcut
          go_upto_if 199 with fail
          go_cut [] from 199 to 205 (fun wc => ∃ g1, EW w0 B n g1 wc ∧ PermF a mid g g1 ∧ SortF Ed.fr a mid g1)
          case first =>
            by_cases c1 : a < r ∧ r < mid
            · have R := ih a r mid c1.1 c1.2 (by omega) (by omega) g _ ts1 ts2 hw
              have e : decide (a < r ∧ r < mid) = true := by simp [c1]
              rw [e]
              go_wp2_with fail
              refine R.mono ?_
              rintro e w2 ⟨rfl, hw2⟩
              go_wp2_with fail
              go_meet
              exact hw2
            · have e : decide (a < r ∧ r < mid) = false := by simp only [c1, decide_false]
              rw [e]
              have s1 : SortF Ed.fr a mid g := by
                by_cases c2 : a < r
                · rw [show mid = r from by omega]; exact ts1
                · have : r = a := by omega
                  rw [this] at ts2; exact ts2
              have hw2 : ∃ g1, EW w0 B n g1 _ ∧ PermF a mid g g1 ∧ SortF Ed.fr a mid g1 := ⟨g, hw, PermF.refl _ _ _, s1⟩
              go_wp2_with fail
              go_meet
              exact hw2
          case rest =>
          clear hw
          obtain ⟨g1, hw, p1, s1⟩ := hcut
          have ts3' : SortF Ed.fr mid en g1 := ts3.congr (fun i x1 x2 => p1.out (by omega))
          have ts4' : SortF Ed.fr en b g1 := ts4.congr (fun i x1 x2 => p1.out (by omega))
          obtain ⟨wz, hwz⟩ : ∃ wz, wz = wc := ⟨_, rfl⟩
          subst hwz
          clear ts1 ts2 ts3 ts4
          go_upto_region 43 with fail
          go_cut [213] from 206 to 213 (fun v wc => v = .bool (decide (mid < en ∧ en < b)) ∧ wc = wz)
          case first =>
            by_cases c1 : mid < en
            · have i1 : (mid : Int) < (en : Int) := by omega
              by_cases c2 : en < b
              · have i2 : (en : Int) < (b : Int) := by omega
                have e : Hid (decide (mid < en ∧ en < b) = true) := by show _ = _; simp [c1, c2]
                go_wp2_with fail
                go_meet
                exact ⟨by rw [e.out], rfl⟩
              · have i2 : (b : Int) ≤ (en : Int) := by omega
                have e : Hid (decide (mid < en ∧ en < b) = false) := by show _ = _; simp [c2]
                go_wp2_with fail
                go_meet
                exact ⟨by rw [e.out], rfl⟩
            · have i1 : (en : Int) ≤ (mid : Int) := by omega
              have e : Hid (decide (mid < en ∧ en < b) = false) := by show _ = _; simp [c1]
              go_wp2_with fail
              go_meet
              exact ⟨by rw [e.out], rfl⟩
          case rest =>
          obtain ⟨rfl, rfl⟩ := hcut
          by_cases c1 : mid < en ∧ en < b
          · have R := ih mid en b c1.1 c1.2 (by omega) (by omega) g1 _ ts3' ts4' hw
            have e : decide (mid < en ∧ en < b) = true := by simp [c1]
            rw [e]
            go_wp2_with fail
            refine R.mono ?_
            rintro e w2 ⟨rfl, g2, hw2, p2, s2⟩
            go_wp2_with fail
            go_end0
            exact ⟨rfl, g2, hw2, per.trans ((p1.mono (Nat.le_refl _) (by omega)).trans (p2.mono (by omega) (Nat.le_refl _))), sym_join tx p1 p2 s1 s2⟩
          · have e : decide (mid < en ∧ en < b) = false := by simp only [c1, decide_false]
            rw [e]
            have s2 : SortF Ed.fr mid b g1 := by
              by_cases c2 : mid < en
              · rw [show b = en from by omega]; exact ts3'
              · have : en = mid := by omega
                rw [this] at ts4'; exact ts4'
            have fin : PermF a b f g1 ∧ SortF Ed.fr a b g1 := ⟨per.trans (p1.mono (Nat.le_refl _) (by omega)), sym_join tx p1 (PermF.refl _ _ _) s1 s2⟩
            go_wp2_with fail
            go_end0
            exact ⟨rfl, g1, hw, fin⟩
end Go.Proofs.Ybulkckss
