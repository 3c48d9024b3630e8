import Derived.Test.YbulkckssSymG
namespace Go.Proofs.Ybulkckss
open Go.RowKit
variable {w0 w w' : World} {B n : Nat} {f : Nat → Ed}

theorem sym_call (cap : Nat) (hn : n ≤ 65536) : ∀ (d a m b : Nat), b - a ≤ d → a < m → m < b → b ≤ n → SymAt w0 B n cap a m b := by
  intro d
  induction d with
  | zero => intro a m b h1 h2 h3; omega
  | succ d ih =>
    intro a m b h1 h2 h3 h4
    by_cases c1 : m = a + 1
    · intro f w r1 r2 h
      subst c1
      have := sym_one cap a b hn h3 h4 h r2
      rwa [show ((a : Int) + 1) = ((a + 1 : Nat) : Int) from by omega] at this
    · by_cases c2 : b = m + 1
      · intro f w r1 r2 h
        subst c2
        have := sym_last cap a m hn (by omega) h4 h r1
        rwa [show ((m : Int) + 1) = ((m + 1 : Nat) : Int) from by omega] at this
      · exact sym_gen cap a m b hn (by omega) (by omega) h4 (fun a' m' b' x1 x2 x3 x4 => ih a' m' b' (by omega) x1 x2 x3)

/-- every block of s places is in order -/
def Blk (s n : Nat) (g : Nat → Ed) : Prop := ∀ t, SortF Ed.fr (t * s) (min (t * s + s) n) g

theorem SortF.perm_out {a b c d : Nat} {f g : Nat → Ed} (h : SortF Ed.fr a b f) (p : PermF c d f g) (hd : b ≤ c ∨ d ≤ a) : SortF Ed.fr a b g := h.congr (fun i h1 h2 => p.out (by omega))

set_option maxHeartbeats 8000000 in
set_option maxRecDepth 100000 in
theorem stable_call (cap : Nat) (hn : n ≤ 65536) (h : EW w0 B n f w) :
    Calls Yba.prog 26 #[.slice (some ⟨B, 0, none⟩) n cap, .int .i64 n, cmpV] w fun e w' => e = .returned (.tuple #[]) ∧ ∃ g, EW w0 B n g w' ∧ PermF 0 n f g ∧ SortF Ed.fr 0 n g := by
  have hnI : (n : Int) ≤ 65536 := by omega
  go_enter Yba.func26, Yba.ntmps26
  go_wp2_with fail
  go_loopw [7, 8] (fun x y wr => ∃ (k : Nat) (g : Nat → Ed), k * 20 ≤ n ∧ x = .int .i64 (k * 20 : Nat) ∧ y = .int .i64 (k * 20 + 20 : Nat) ∧ EW w0 B n g wr ∧ PermF 0 n f g ∧ ∀ t, t < k → SortF Ed.fr (t * 20) (t * 20 + 20) g) (fun x _ _ => 65537 - (intOf x).toNat)
  case atStart => exact ⟨0, f, by omega, rfl, rfl, h, PermF.refl _ _ _, fun t ht => by omega⟩
  case round =>
    clear h
    obtain ⟨k, g, hk, rfl, rfl, hw, hp, hs⟩ := hrel
    by_cases hlt : k * 20 + 20 ≤ n
    · have I := insertion_call cap (k * 20) (k * 20 + 20) hn (by omega) hlt hw
      have e1 : ((k * 20 + 20 : Nat) : Int) ≤ (n : Int) := by omega
      have e2 : ((k * 20 + 20 : Nat) : Int) ≤ 65536 := by omega
      have e3 : (0 : Int) ≤ ((k * 20 + 20 : Nat) : Int) := by omega
      obtain ⟨A, hA⟩ : ∃ A, k * 20 + 20 = A := ⟨_, rfl⟩
      obtain ⟨A', hA'⟩ : ∃ A', k * 20 = A' := ⟨_, rfl⟩
      have HA : Hid (k * 20 + 20 = A) := hA
      have HA' : Hid (k * 20 = A') := hA'
      rw [hA] at I e1 e2 e3 ⊢
      rw [hA'] at I ⊢
      clear hA hA'
      go_wp2_with fail
      refine I.mono ?_
      rintro e w1 ⟨rfl, g1, hw1, p1, s1⟩
      clear I
      have hs2 : ∀ t, t < k + 1 → SortF Ed.fr (t * 20) (t * 20 + 20) g1 := fun t ht => by
        have := HA.out
        have := HA'.out
        by_cases e : t = k
        · rw [e, HA.out, HA'.out]; exact s1
        · exact (hs t (by omega)).perm_out p1 (.inl (by omega))
      have pp : PermF 0 n f g1 := hp.trans (p1.mono (by omega) (by have := HA.out; omega))
      go_wp2_with fail
      go_roundw
      case rel => exact ⟨k + 1, g1, by have := HA.out; omega, by rw [show (k + 1) * 20 = A from by have := HA.out; omega], by rw [show (k + 1) * 20 + 20 = A + 20 from by have := HA.out; omega]; go_num, hw1, pp, hs2⟩
      case measure => have := HA.out; have := HA'.out; simp [intOf]; omega
    · have I := insertion_call cap (k * 20) n hn hk (Nat.le_refl _) hw
      have e1 : (n : Int) < ((k * 20 + 20 : Nat) : Int) := by omega
      obtain ⟨A, hA⟩ : ∃ A, k * 20 + 20 = A := ⟨_, rfl⟩
      obtain ⟨A', hA'⟩ : ∃ A', k * 20 = A' := ⟨_, rfl⟩
      have HA : Hid (k * 20 + 20 = A) := hA
      have HA' : Hid (k * 20 = A') := hA'
      rw [hA] at e1 ⊢
      rw [hA'] at I ⊢
      clear hA hA'
      go_wp2_with fail
      refine I.mono ?_
      rintro e w1 ⟨rfl, g1, hw1, p1, s1⟩
      clear I hw
      have bl : Blk 20 n g1 := fun t => by
        have a1 := HA.out
        have a2 := HA'.out
        by_cases c1 : t < k
        · rw [show min (t * 20 + 20) n = t * 20 + 20 from by omega]; exact (hs t c1).perm_out p1 (.inl (by omega))
        · by_cases c2 : t = k
          · rw [c2, show min (k * 20 + 20) n = n from by omega, HA'.out]; exact s1
          · intro i j x1 x2 x3; omega
      have pp : PermF 0 n f g1 := hp.trans (p1.mono (by omega) (Nat.le_refl _))
      clear p1 s1 hs hp e1 HA HA' hlt hk
      go_wp2_with fail
      go_loopw [6, 7, 8, 9] (fun x _ _ _ wr => ∃ (s : Nat) (g : Nat → Ed), 20 ≤ s ∧ s ≤ 131072 ∧ x = .int .i64 s ∧ EW w0 B n g wr ∧ PermF 0 n f g ∧ Blk s n g) (fun x _ _ _ _ => 131073 - (intOf x).toNat)
      case atStart => exact ⟨20, g1, by omega, by omega, rfl, hw1, pp, bl⟩
      case round =>
        clear hw1 pp bl
        obtain ⟨s, g, hs1, hs2, rfl, hw, hp, bl⟩ := hrel
        by_cases hlt : s < n
        · have hI : (s : Int) < (n : Int) := by omega
          have hI0 : (20 : Int) ≤ (s : Int) := by omega
          obtain ⟨S, hS⟩ : ∃ S, 2 * s = S := ⟨_, rfl⟩
          have HS : Hid (2 * s = S) := hS
          have hSI : (2 : Int) * (s : Int) = (S : Int) := by omega
          have hSI2 : (S : Int) ≤ 131072 := by omega
          have hSI0 : (0 : Int) ≤ (S : Int) := by omega
          have hmul : ∀ t k : Nat, t < k → t * S + S ≤ k * S := fun t k h => by rw [← Nat.succ_mul]; exact Nat.mul_le_mul_right _ h
          have hdbl : ∀ k : Nat, 2 * k * s = k * S ∧ (2 * k + 1) * s = k * S + s := fun k => by
            have : 2 * k * s = k * S := by rw [← hS, Nat.mul_comm 2 k, Nat.mul_assoc]
            exact ⟨this, by rw [Nat.succ_mul, this]⟩
          have hgap : ∀ t k : Nat, 2 * k + 2 ≤ t → k * S + S ≤ t * s := fun t k h => by
            have h1 : (2 * k + 2) * s ≤ t * s := Nat.mul_le_mul_right _ h
            have h2 : (2 * k + 2) * s = k * S + S := by rw [Nat.add_mul, (hdbl k).1, hS]
            omega
          have HM : Aside _ := hmul
          have HD : Aside _ := hdbl
          have HG : Aside _ := hgap
          clear hS hmul hdbl hgap
          go_wp2_with fail
          go_loopw [7, 8] (fun x y wr => ∃ (k A : Nat) (g : Nat → Ed), k * S = A ∧ A ≤ n ∧ x = .int .i64 A ∧ y = .int .i64 ((A : Int) + (S : Int)) ∧ EW w0 B n g wr ∧ PermF 0 n f g ∧ (∀ t, t < k → SortF Ed.fr (t * S) (t * S + S) g) ∧ ∀ t, 2 * k ≤ t → SortF Ed.fr (t * s) (min (t * s + s) n) g) (fun x _ _ => 65537 - (intOf x).toNat)
          case atStart => exact ⟨0, 0, g, by omega, by omega, rfl, by simp, hw, hp, fun t ht => by omega, fun t _ => bl t⟩
          case round =>
            clear hw hp bl
            obtain ⟨k, A, g, hA, hAn, rfl, rfl, hw, hp, h1, h2⟩ := hrel
            have HA : Hid (k * S = A) := hA
            have HS2 := HS.out
            have t0 := h2 (2 * k) (Nat.le_refl _)
            have t1 := h2 (2 * k + 1) (by omega)
            rw [(HD.out k).1, hA] at t0
            rw [(HD.out k).2, hA] at t1
            clear hA
            have hAI : (A : Int) ≤ (n : Int) := by omega
            have hA0 : (0 : Int) ≤ (A : Int) := by omega
            by_cases hle : A + S ≤ n
            · have hI2 : (A : Int) + (S : Int) ≤ (n : Int) := by omega
              rw [show min (A + s) n = A + s from by omega] at t0
              rw [show min (A + s + s) n = A + S from by omega] at t1
              have R := sym_call (w0 := w0) (B := B) cap hn (A + S - A) A (A + s) (A + S) (Nat.le_refl _) (by omega) (by omega) hle g _ t0 t1 hw
              rw [show ((A + s : Nat) : Int) = (A : Int) + (s : Int) from by omega, show ((A + S : Nat) : Int) = (A : Int) + (S : Int) from by omega] at R
              clear HS2
              go_wp2_with fail
              refine R.mono ?_
              rintro e w2 ⟨rfl, g2, hw2, p2, s2⟩
              clear R
              have q1 : ∀ t, t < k + 1 → SortF Ed.fr (t * S) (t * S + S) g2 := fun t ht => by
                by_cases e : t = k
                · rw [e, HA.out]; exact s2
                · have := HM.out t k (by omega)
                  rw [HA.out] at this
                  exact (h1 t (by omega)).perm_out p2 (.inl this)
              have q2 : ∀ t, 2 * (k + 1) ≤ t → SortF Ed.fr (t * s) (min (t * s + s) n) g2 := fun t ht => by
                have := HG.out t k (by omega)
                rw [HA.out] at this
                exact (h2 t (by omega)).perm_out p2 (.inr this)
              have pp : PermF 0 n f g2 := hp.trans (p2.mono (by omega) hle)
              have ee : Hid ((k + 1) * S = A + S) := by show _ = _; rw [Nat.succ_mul, HA.out]
              clear h1 h2 p2 s2 hp hw t0 t1
              go_wp2_with fail
              go_roundw
              case rel => exact ⟨k + 1, A + S, g2, ee.out, hle, by go_num, by go_num, hw2, pp, q1, q2⟩
              case measure => have := HS.out; simp [intOf]; omega
            · have hI2 : (n : Int) < (A : Int) + (S : Int) := by omega
              have fin : ∀ g2, PermF A n g g2 → SortF Ed.fr A n g2 → Blk S n g2 := fun g2 p2 s2 t => by
                by_cases c1 : t < k
                · have := HM.out t k c1
                  rw [HA.out] at this
                  rw [show min (t * S + S) n = t * S + S from by omega]
                  exact (h1 t c1).perm_out p2 (.inl this)
                · by_cases c2 : t = k
                  · rw [c2, HA.out, show min (A + S) n = n from by omega]; exact s2
                  · have := HM.out k t (by omega)
                    rw [HA.out] at this
                    intro i j x1 x2 x3
                    omega
              by_cases hlm : A + s < n
              · have hI3 : (A : Int) + (s : Int) < (n : Int) := by omega
                rw [show min (A + s) n = A + s from by omega] at t0
                rw [show min (A + s + s) n = n from by omega] at t1
                have R := sym_call (w0 := w0) (B := B) cap hn (n - A) A (A + s) n (Nat.le_refl _) (by omega) hlm (Nat.le_refl _) g _ t0 t1 hw
                rw [show ((A + s : Nat) : Int) = (A : Int) + (s : Int) from by omega] at R
                clear HS2
                go_wp2_with fail
                refine R.mono ?_
                rintro e w2 ⟨rfl, g2, hw2, p2, s2⟩
                have B2 := fin g2 p2 s2
                have pp : PermF 0 n f g2 := hp.trans (p2.mono (by omega) (Nat.le_refl _))
                clear R fin h1 h2 p2 s2 hp hw t0 t1
                have e2 : (s : Int) * 2 = (S : Int) := by omega
                go_wp2_with fail
                go_roundw
                case rel => exact ⟨S, g2, by have := HS.out; omega, by have := HS.out; omega, by go_num, hw2, pp, B2⟩
                case measure => have := HS.out; simp [intOf]; omega
              · have hI3 : (n : Int) ≤ (A : Int) + (s : Int) := by omega
                rw [show min (A + s) n = n from by omega] at t0
                have B2 := fin g (PermF.refl _ _ _) t0
                clear fin h1 h2 t0 t1 HS2
                have e2 : (s : Int) * 2 = (S : Int) := by omega
                go_wp2_with fail
                go_roundw
                case rel => exact ⟨S, g, by have := HS.out; omega, by have := HS.out; omega, by go_num, hw, hp, B2⟩
                case measure => have := HS.out; simp [intOf]; omega
        · have hI : (n : Int) ≤ (s : Int) := by omega
          have s0 := bl 0
          rw [Nat.zero_mul, Nat.zero_add, show min s n = n from by omega] at s0
          go_wp2_with fail
          go_end0
          exact ⟨rfl, g, hw, hp, s0⟩

/-- slices.SortStableFunc of the edges by their origin: in order, and the same edges -/
theorem sortStable_call (cap : Nat) (hn : n ≤ 65536) (h : EW w0 B n f w) :
    Calls Yba.prog 18 #[.slice (some ⟨B, 0, none⟩) n cap, cmpV] w fun e w' => e = .returned (.tuple #[]) ∧ ∃ g, EW w0 B n g w' ∧ PermF 0 n f g ∧ SortF Ed.fr 0 n g := by
  have S := stable_call cap hn h
  go_enter Yba.func18, Yba.ntmps18
  go_wp2_with fail
  refine S.mono ?_
  rintro e w1 ⟨rfl, g, hw⟩
  go_wp2_with fail
  go_end0
  exact ⟨rfl, g, hw⟩
end Go.Proofs.Ybulkckss
