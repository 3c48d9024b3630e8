import Derived.Test.YbulkckuwKeys
import Derived.OwnWalk
import Derived.Deep.QuietTactic
import Derived.BigQuiet
import Derived.Deep.RegionLaw
namespace Go.Proofs.Ybulkckuw
open Go.RowKit

theorem upt_pick (Pb k : Nat) (s : Nat) (hs : s < 2) : upt Pb (k * 2 + s) = if k = 4 then none else some ⟨Pb, k * 17, none⟩ := by
  unfold upt
  have : (k * 2 + s) / 2 = k := by omega
  rw [this]

set_option maxHeartbeats 400000 in
theorem ptr_walk (Pb p : Nat) (hp : p < 256) (w : World) :
    Calls Yba.prog 5 #[.pointer (some ⟨Pb, 0, none⟩), .int .u8 p] w fun e w' => e = .returned (.pointer (if p % 5 = 4 then none else some ⟨Pb, p % 5 * 17, none⟩)) ∧ w' = w := by
  obtain ⟨k, hk⟩ : ∃ k, k = p % 5 := ⟨_, rfl⟩
  have hkl : k < 5 := by omega
  have hk' : (p : Int) % 5 = (k : Int) := by omega
  rw [← hk]
  clear hk
  by_cases h4 : k = 4
  · rw [if_pos h4]
    have h4' : (4 : Int) ≤ (k : Int) := by omega
    clear h4
    go_enter Yba.func5, Yba.ntmps5
    go_wp2_with fail
    go_ret
    exact ⟨rfl, rfl⟩
  · rw [if_neg h4]
    have h4' : (k : Int) < (4 : Int) := by omega
    go_enter Yba.func5, Yba.ntmps5
    go_wp2_with fail
    go_ret
    exact ⟨rfl, rfl⟩

/-- the cells of a row of uses -/
def cellsOf (Pb : Nat) : List Nat → List Value
  | [] => []
  | u :: l => .pointer (upt Pb u) :: .bool (usec u) :: cellsOf Pb l

theorem cellsOf_len (Pb : Nat) (l : List Nat) : (cellsOf Pb l).length = l.length * 2 := by
  induction l with
  | nil => rfl
  | cons u l ih => simp [cellsOf, ih]; omega

theorem cellsOf_append (Pb : Nat) (l : List Nat) (u : Nat) : cellsOf Pb (l ++ [u]) = cellsOf Pb l ++ [.pointer (upt Pb u), .bool (usec u)] := by
  induction l with
  | nil => rfl
  | cons v l ih => simp [cellsOf, ih]

theorem cellsOf_ptr (Pb : Nat) (l : List Nat) (i : Nat) (h : i < l.length) : (cellsOf Pb l)[i * 2]? = some (.pointer (upt Pb (l.getD i 0))) := by
  induction l generalizing i with
  | nil => simp at h
  | cons v l ih =>
    cases i with
    | zero => simp [cellsOf]
    | succ i =>
      have e : (i + 1) * 2 = i * 2 + 1 + 1 := by omega
      rw [e]
      simp only [cellsOf, List.getElem?_cons_succ, List.getD_cons_succ]
      exact ih i (by simpa using h)

theorem cellsOf_sec (Pb : Nat) (l : List Nat) (i : Nat) (h : i < l.length) : (cellsOf Pb l)[i * 2 + 1]? = some (.bool (usec (l.getD i 0))) := by
  induction l generalizing i with
  | nil => simp at h
  | cons v l ih =>
    cases i with
    | zero => simp [cellsOf]
    | succ i =>
      have e : (i + 1) * 2 + 1 = i * 2 + 1 + 1 + 1 := by omega
      rw [e]
      simp only [cellsOf, List.getElem?_cons_succ, List.getD_cons_succ]
      exact ih i (by simpa using h)

/-- the slice (a, n) holds the uses us -/
def Row (Pb : Nat) (us : List Nat) (a : Option Addr) (w : World) : Prop :=
  us = [] ∨ ∃ g, a = some ⟨g, 0, none⟩ ∧ g < w.heap.size ∧ ∀ i, i < us.length → w.cell? ⟨g, i * 2, none⟩ = some (.pointer (upt Pb (us.getD i 0))) ∧ w.cell? ⟨g, i * 2 + 1, none⟩ = some (.bool (usec (us.getD i 0)))

def has (us : List Nat) (u : Nat) : Bool := us.any (fun v => decide (v = u))

theorem has_take_succ (us : List Nat) (u k : Nat) (h : k < us.length) : has (us.take (k + 1)) u = (has (us.take k) u || decide (us.getD k 0 = u)) := by
  have e : us.getD k 0 = us[k] := by simp [h]
  rw [e]
  unfold has
  rw [List.take_succ_eq_append_getElem h, List.any_append]
  simp

theorem has_of (us : List Nat) (u k : Nat) (h : k < us.length) (he : us.getD k 0 = u) : has us u = true := by
  unfold has
  rw [List.any_eq_true]
  refine ⟨us[k], List.getElem_mem h, ?_⟩
  simp [h] at he
  simpa using he

theorem ret_bool {a b : Bool} (h : a = b) : Ending.returned (.bool a) = .returned (.bool b) := by rw [h]

set_option maxHeartbeats 1000000 in
set_option maxRecDepth 100000 in
/-- zzs4338bhas: whether u is among the uses; it lays new blocks. -/
theorem has_walk (Pb u c : Nat) (us : List Nat) (a : Option Addr) (w : World) (hn : us.length ≤ 9223372036854775807) (hr : Row Pb us a w) :
    Calls Yba.prog 6 #[.slice a us.length c, uv Pb u] w fun e w' => e = .returned (.bool (has us u)) ∧ Below w.heap.size w w' := by
  unfold uv
  rcases hr with rfl | ⟨g, rfl, hg, hc⟩
  · go_enter Yba.func6, Yba.ntmps6
    go_wp2_with fail
    go_loop [9] (fun i => i = .int .i64 0) (fun _ => 0)
    case atStart => rfl
    case round =>
      subst hrel
      go_wp2_with fail
      go_ret
      exact ⟨rfl, (Below.refl _ _).alloc (Nat.le_refl _) _⟩
  · obtain ⟨n, hN⟩ : ∃ n, n = us.length := ⟨_, rfl⟩
    rw [← hN]
    rw [← hN] at hn hc
    have HN : Hid (n = us.length) := hN
    clear hN
    go_enter Yba.func6, Yba.ntmps6
    go_wp2_with fail
    go_loopw [9] (fun i wr => ∃ k : Nat, k ≤ n ∧ i = .int .i64 k ∧ Hid (has (us.take k) u = false) ∧ Below (w.heap.size + 1) (w.alloc (.cells #[.pointer (upt Pb u), .bool (usec u)] 50)) wr) (fun i _ => n - (intOf i).toNat)
    case atStart => exact ⟨0, Nat.zero_le _, rfl, rfl, Below.refl _ _⟩
    case round =>
      obtain ⟨k, hk, rfl, hz, hb⟩ := hrel
      have hb' : Below w.heap.size w wr := ((Below.refl _ _).alloc (Nat.le_refl _) _).trans (hb.mono (by omega))
      by_cases hlt : k < n
      · obtain ⟨c0, c1⟩ := hc k hlt
        have d0 := (hb'.cell (p := ⟨g, k * 2, none⟩) hg).trans c0
        have d1 := (hb'.cell (p := ⟨g, k * 2 + 1, none⟩) hg).trans c1
        have e0 : wr.cell? ⟨w.heap.size, 0, none⟩ = some (.pointer (upt Pb u)) := (hb.cell (by simp)).trans (by simp)
        have e1 : wr.cell? ⟨w.heap.size, 1, none⟩ = some (.bool (usec u)) := (hb.cell (by simp)).trans (by simp)
        have hsz : w.heap.size < wr.heap.size := by have := hb.size; simp at this; omega
        have heq : ∀ w', (Op.equalIn 9999 34 (.pointer (upt Pb (us.getD k 0))) (.pointer (upt Pb u))).run Yba.prog w' = .ok (decide (us.getD k 0 / 2 = u / 2)) w' := eq_ptr Pb (us.getD k 0) u 9998
        have HT : Hid (has (us.take (k + 1)) u = (has (us.take k) u || decide (us.getD k 0 = u))) := has_take_succ us u k (by have := HN.out; omega)
        have HO : Hid (us.getD k 0 = u → has us u = true) := has_of us u k (by have := HN.out; omega)
        generalize us.getD k 0 = v at *
        clear c0 c1
        have hil : (k : Int) < (n : Int) := by omega
        by_cases hvu : v = u
        · subst hvu
          simp only [decide_true] at heq
          go_wp2_with fail
          go_ret
          exact ⟨ret_bool (HO.out (by trivial)).symm, hb'.alloc (by omega) _⟩
        · have hne : ¬ (v / 2 = u / 2 ∧ v % 2 = u % 2) := by omega
          have HT' : Hid (has (us.take (k + 1)) u = false) := by
            have h1 := HT.out
            have h2 := hz.out
            rw [h2] at h1
            rw [Hid, h1]
            simp [hvu]
          clear HT HO
          by_cases hp : v / 2 = u / 2
          · have hs : (usec v == usec u) = false := by rw [usec_eq]; simp; omega
            have hs' : ¬ (usec v = usec u) := by simpa using hs
            simp only [hp, decide_true] at heq
            clear hne hp hvu
            go_wp2_with fail
            go_roundw
            case rel => exact ⟨k + 1, by omega, by go_num, HT', hb.alloc (by omega) _⟩
            case measure => simp [intOf]; omega
          · simp only [hp, decide_false] at heq
            clear hne hp hvu
            go_wp2_with fail
            go_roundw
            case rel => exact ⟨k + 1, by omega, by go_num, HT', hb.alloc (by omega) _⟩
            case measure => simp [intOf]; omega
      · go_wp2_with fail
        have : k = n := by omega
        subst this
        go_ret
        exact ⟨ret_bool (by rw [← hz.out, HN.out, List.take_length]), hb'⟩
end Go.Proofs.Ybulkckuw
