import Derived.Test.YbulkckssOrd
import Derived.Deep.QuietTactic
namespace Go.Proofs.Ybulkckss
open Go.RowKit

/-- n is how far a and b agree -/
structure IsLcp (a b : List UInt8) (n : Nat) : Prop where
  la : n ≤ a.length
  lb : n ≤ b.length
  eq : a.take n = b.take n
  mx : n = a.length ∨ n = b.length ∨ a[n]? ≠ b[n]?

theorem Below.drewN_of (B : Nat) (w : World) (n : Nat) : Below B w (w.drewN n) := ⟨rfl, rfl, rfl, Nat.le_refl _, fun _ _ => rfl⟩
set_option maxHeartbeats 1000000 in
set_option maxRecDepth 100000 in
theorem lcp_call (a b : ByteArray) (w : World) (ha : a.size ≤ 256) (hb : b.size ≤ 256) : Calls Yba.prog 17 #[.string a, .string b] w fun e w' => ∃ n : Nat, e = .returned (.int .i64 n) ∧ IsLcp (bl a) (bl b) n ∧ Below w.heap.size w w' := by
  have haI : (a.size : Int) ≤ 256 := by omega
  have hbI : (b.size : Int) ≤ 256 := by omega
  go_enter Yba.func17, Yba.ntmps17
  go_wp2_with fail
  go_loopw [5] (fun x wr => ∃ n : Nat, n ≤ a.size ∧ n ≤ b.size ∧ x = .int .i64 n ∧ (bl a).take n = (bl b).take n ∧ Below w.heap.size w wr) (fun x _ => 256 - (intOf x).toNat)
  case atStart => exact ⟨0, by omega, by omega, rfl, rfl, Below.refl _ _⟩
  case round =>
    obtain ⟨n, h1, h2, rfl, he, hbel⟩ := hrel
    by_cases hlt : n < a.size ∧ n < b.size
    · have i1 : (n : Int) < (a.size : Int) := by omega
      have i2 : (n : Int) < (b.size : Int) := by omega
      have i0 : (0 : Int) ≤ (n : Int) := by omega
      have im : (n : Int) < min (a.size : Int) (b.size : Int) := by omega
      have HE : Hid ((bl a).take n = (bl b).take n) := he
      clear he
      go_wp2_with fail
      go_quiet (fail)
      have hbq := hbel.trans (Below.drewN_of w.heap.size wr nq)
      have ga : (bl a)[n]? = some a[n] := by
        rw [List.getElem?_eq_getElem (by simpa using hlt.1)]; rfl
      have gb : (bl b)[n]? = some b[n] := by
        rw [List.getElem?_eq_getElem (by simpa using hlt.2)]; rfl
      by_cases hab : a[n].toNat = b[n].toNat
      · have hq : (((a[n].toNat : Nat) : Int) == ((b[n].toNat : Nat) : Int)) = true := by simp [hab]
        have he2 : Hid ((bl a).take (n + 1) = (bl b).take (n + 1)) := by
          show _ = _
          rw [List.take_add_one, List.take_add_one, ga, gb, HE.out, UInt8.toNat_inj.1 hab]
        clear hab ga gb
        go_wp2_with fail
        go_roundw
        case rel => exact ⟨n + 1, by omega, by omega, by go_num, he2.out, hbq⟩
        case measure => simp [intOf]; omega
      · have hq : (((a[n].toNat : Nat) : Int) == ((b[n].toNat : Nat) : Int)) = false := by simp; omega
        have fin : IsLcp (bl a) (bl b) n := ⟨by simpa using h1, by simpa using h2, HE.out, .inr (.inr (by rw [ga, gb]; intro e; exact hab (by rw [Option.some.inj e])))⟩
        clear hab ga gb
        go_wp2_with fail
        go_ret
        exact ⟨n, rfl, fin, hbq⟩
    · have im : ¬ (n : Int) < min (a.size : Int) (b.size : Int) := by omega
      have fin : IsLcp (bl a) (bl b) n := ⟨by simpa using h1, by simpa using h2, he, by
        have e1 : (bl a).length = a.size := by simp
        have e2 : (bl b).length = b.size := by simp
        omega⟩
      clear he
      have imf : ((n : Int) < min (a.size : Int) (b.size : Int)) = False := eq_false im
      clear im
      go_wp2_with fail
      go_quiet (fail)
      have hbq := hbel.trans (Below.drewN_of w.heap.size wr nq)
      go_wp2_with fail
      go_ret
      exact ⟨n, rfl, fin, hbq⟩
end Go.Proofs.Ybulkckss
