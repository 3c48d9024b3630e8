import Derived.Test.YbulkckuwRows
import Derived.WalkKit
import Derived.WideKeyRuns
import Derived.LaidEqlPtr
namespace Go.Proofs.Ybulkckuw
open Go.RowKit

/-- the pointer of use u (u = pick * 2 + secure): into the pool at block Pb, or nil at pick 4 -/
def upt (Pb u : Nat) : Option Addr := if u / 2 = 4 then none else some ⟨Pb, u / 2 * 17, none⟩
def usec (u : Nat) : Bool := u % 2 == 1
/-- the use u as a value -/
def uv (Pb u : Nat) : Value := .agg #[.pointer (upt Pb u), .bool (usec u)]

theorem Yba.info38 : (Yba.prog.info? 38).map (fun i => i.size) = some 17 := by kernel_rfl

theorem eq_ptr (Pb u v : Nat) (d : Nat) (w : World) : (Op.equalIn (d + 1) 34 (.pointer (upt Pb u)) (.pointer (upt Pb v))).run Yba.prog w = .ok (decide (u / 2 = v / 2)) w := by
  obtain ⟨i, hi, hs⟩ := Option.map_eq_some_iff.1 Yba.info38
  unfold upt
  by_cases h1 : u / 2 = 4
  · by_cases h2 : v / 2 = 4
    · simp [Op.equalIn, run_underlying Yba.underlying34, h1, h2]
    · have : ¬ 4 = v / 2 := by omega
      simp [Op.equalIn, run_underlying Yba.underlying34, h1, h2, this]
  · by_cases h2 : v / 2 = 4
    · have : ¬ u / 2 = v / 2 := by omega
      simp [Op.equalIn, run_underlying Yba.underlying34, h1, h2]
    · by_cases h3 : u / 2 = v / 2
      · simp [Op.equalIn, run_underlying Yba.underlying34, h2, h3, sizeOf, typeInfo, hi, run_sameAddr_same]
      · have hne : u / 2 * 17 ≠ v / 2 * 17 := by omega
        simp [Op.equalIn, run_underlying Yba.underlying34, h1, h2, h3, sizeOf, typeInfo, hi, hs, sameAddr]

theorem eq_pair (a b : Value) (s t r : Bool) (d : Nat) (he : ∀ w, (Op.equalIn (d + 1) 34 a b).run Yba.prog w = .ok r w) (w : World) :
    (Op.equalIn (d + 2) 50 (.agg #[a, .bool s]) (.agg #[b, .bool t])).run Yba.prog w = .ok (r && (s == t)) w := by
  have hb := fun w => run_equalIn_bool' (P := Yba.prog) w d 4 s t Yba.underlying4
  rw [run_equalIn_struct w (d + 1) 50 _ _ (by kernel_rfl) (by kernel_rfl)]
  cases r
  · simp [Program.fieldsOf, Yba.underlying50, Op.eqFields, he, part, go_sem]
  · cases s <;> cases t <;> simp [Program.fieldsOf, Yba.underlying50, Op.eqFields, he, hb, part, go_sem]

theorem usec_eq (u v : Nat) : (usec u == usec v) = decide (u % 2 = v % 2) := by
  unfold usec
  have h1 : u % 2 = 0 ∨ u % 2 = 1 := by omega
  have h2 : v % 2 = 0 ∨ v % 2 = 1 := by omega
  rcases h1 with h1 | h1 <;> rcases h2 with h2 | h2 <;> simp [h1, h2]

theorem eq_use (Pb u v : Nat) (d : Nat) (w : World) : (Op.equalIn (d + 2) 50 (uv Pb u) (uv Pb v)).run Yba.prog w = .ok (decide (u = v)) w := by
  have h := eq_pair (.pointer (upt Pb u)) (.pointer (upt Pb v)) (usec u) (usec v) (decide (u / 2 = v / 2)) d (eq_ptr Pb u v d) w
  have e : (decide (u / 2 = v / 2) && (usec u == usec v)) = decide (u = v) := by
    rw [usec_eq, Bool.eq_iff_iff]
    simp
    omega
  rw [e] at h
  exact h

/-- the table's entries, the uses and their marks, in the order of their coming -/
def ents (Pb : Nat) : Nat → List (Nat × Bool) → List MapEntry
  | _, [] => []
  | i, (u, b) :: l => { key := uv Pb u, val := .bool b, born := i } :: ents Pb (i + 1) l

/-- where use u stands -/
def idx (u : Nat) : List (Nat × Bool) → Nat → Option (Nat × Bool)
  | [], _ => none
  | (v, b) :: l, i => if u = v then some (i, b) else idx u l (i + 1)

theorem find_run (Pb u : Nat) (w : World) (l : List (Nat × Bool)) (i j : Nat) :
    (Instr.findAsking 50 (uv Pb u) (ents Pb j l) i).run Yba.prog w = .ok ((idx u l i).map fun x => (x.1, Value.bool x.2)) w := by
  induction l generalizing i j with
  | nil => simp [Instr.findAsking, ents, idx]
  | cons x l ih =>
    obtain ⟨v, b⟩ := x
    have he : (Op.equal 50 (uv Pb u) (uv Pb v)).run Yba.prog w = .ok (decide (u = v)) w := eq_use Pb u v 9998 w
    by_cases h : u = v
    · have he' : (Op.equal 50 (uv Pb u) (uv Pb v)).run Yba.prog w = .ok true w := by rw [he]; simp [h]
      have hi : idx u ((v, b) :: l) i = some (i, b) := by simp [idx, h]
      rw [hi]
      simp [Instr.findAsking, ents, he']
    · simp [Instr.findAsking, ents, idx, he, h, ih]

theorem check_ptr (a : Option Addr) (e : Bool) (n : Nat) (w : World) : (Instr.checkKey e (n + 1) 34 (.pointer a)).run Yba.prog w = .ok () w := by
  simp [Instr.checkKey, run_underlying Yba.underlying34]
theorem check_bool (a : Bool) (e : Bool) (n : Nat) (w : World) : (Instr.checkKey e (n + 1) 4 (.bool a)).run Yba.prog w = .ok () w := by
  simp [Instr.checkKey, run_underlying Yba.underlying4]
theorem check_use (Pb u : Nat) (e : Bool) (n : Nat) (w : World) : (Instr.checkKey e (n + 2) 50 (uv Pb u)).run Yba.prog w = .ok () w := by
  have h1 := check_ptr (upt Pb u) e n
  have h2 := check_bool (usec u) e n
  unfold uv
  unfold Instr.checkKey
  simp [run_underlying Yba.underlying50, h1, h2, part, go_sem]
theorem check_run (Pb u : Nat) (e : Bool) (w : World) : (Instr.checkKey e 10000 50 (uv Pb u)).run Yba.prog w = .ok () w := check_use Pb u e 9998 w

/-- the table as an object -/
def tab (Pb : Nat) (l : List (Nat × Bool)) : Obj := .map (ents Pb 0 l).toArray l.length

/-- what 'm[u]' gives -/
def val (u : Nat) (l : List (Nat × Bool)) : Bool := ((idx u l 0).map (·.2)).getD false

theorem find_key (Pb u : Nat) (l : List (Nat × Bool)) (w : World) : (Instr.findKey 50 (uv Pb u) (ents Pb 0 l)).run Yba.prog w = .ok ((idx u l 0).map fun x => (x.1, Value.bool x.2)) w := by
  rw [run_findKey_eq w (by kernel_rfl), find_run]

/-- 'm[u]' -/
theorem look_run (Pb u r : Nat) (l : List (Nat × Bool)) (w : World) (h : w.heap[r]? = some (tab Pb l)) :
    (Instr.lookup 41 (.map (some r)) (uv Pb u) false).run Yba.prog w = .ok (.bool (val u l)) w := by
  have hz := Yba.zeroValue4
  simp [Instr.lookup, run_underlying Yba.underlying41, MapKept.run_getObj_map h, check_run, find_key, val]
  cases hi : idx u l 0 with
  | none => simp [hz]
  | some x => simp

/-- 'v, ok := m[u]' -/
theorem look_ok_run (Pb u r : Nat) (l : List (Nat × Bool)) (w : World) (h : w.heap[r]? = some (tab Pb l)) :
    (Instr.lookup 41 (.map (some r)) (uv Pb u) true).run Yba.prog w = .ok (.tuple #[.bool (val u l), .bool (idx u l 0).isSome]) w := by
  have hz := Yba.zeroValue4
  simp [Instr.lookup, run_underlying Yba.underlying41, MapKept.run_getObj_map h, check_run, find_key, val]
  cases hi : idx u l 0 with
  | none => simp [hz]
  | some x => simp

/-- the table behind 'm[u] = b' -/
def upd (u : Nat) (b : Bool) : List (Nat × Bool) → List (Nat × Bool)
  | [] => [(u, b)]
  | (v, c) :: l => if u = v then (v, b) :: l else (v, c) :: upd u b l

theorem same_bits (Pb u : Nat) : Instr.sameBits 10000 (uv Pb u) (uv Pb u) = true := by
  unfold uv
  simp [Instr.sameBits]

theorem upd_push (Pb u : Nat) (b : Bool) (l : List (Nat × Bool)) (j i : Nat) (h : idx u l i = none) : ents Pb j (upd u b l) = ents Pb j l ++ [{ key := uv Pb u, val := .bool b, born := j + l.length }] := by
  induction l generalizing j i with
  | nil => simp [upd, ents]
  | cons x l ih =>
    obtain ⟨v, c⟩ := x
    by_cases e : u = v
    · simp [idx, e] at h
    · simp [idx, e] at h
      simp [upd, e, ents, ih (j + 1) (i + 1) h]
      omega

theorem upd_len_push (u : Nat) (b : Bool) (l : List (Nat × Bool)) (i : Nat) (h : idx u l i = none) : (upd u b l).length = l.length + 1 := by
  induction l generalizing i with
  | nil => simp [upd]
  | cons x l ih =>
    obtain ⟨v, c⟩ := x
    by_cases e : u = v
    · simp [idx, e] at h
    · simp [idx, e] at h
      simp [upd, e, ih (i + 1) h]

theorem upd_len_turn (u : Nat) (b : Bool) (l : List (Nat × Bool)) (i : Nat) (x : Nat × Bool) (h : idx u l i = some x) : (upd u b l).length = l.length := by
  induction l generalizing i with
  | nil => simp [idx] at h
  | cons y l ih =>
    obtain ⟨v, c⟩ := y
    by_cases e : u = v
    · simp [upd, e]
    · simp [idx, e] at h
      simp [upd, e, ih (i + 1) h]

theorem idx_ge (u : Nat) (l : List (Nat × Bool)) (i : Nat) (x : Nat × Bool) (h : idx u l i = some x) : i ≤ x.1 := by
  induction l generalizing i with
  | nil => simp [idx] at h
  | cons y l ih =>
    obtain ⟨v, c⟩ := y
    by_cases e : u = v
    · simp [idx, e] at h; subst h; simp
    · simp [idx, e] at h
      have := ih (i + 1) h
      omega

theorem upd_turn (Pb u : Nat) (b : Bool) (l : List (Nat × Bool)) (j i : Nat) (x : Nat × Bool) (h : idx u l i = some x) :
    ents Pb j (upd u b l) = (ents Pb j l).modify (x.1 - i) (fun e => { e with key := uv Pb u, val := .bool b }) := by
  induction l generalizing j i with
  | nil => simp [idx] at h
  | cons y l ih =>
    obtain ⟨v, c⟩ := y
    by_cases e : u = v
    · simp [idx, e] at h; subst h; subst e; simp [upd, ents]
    · simp [idx, e] at h
      have hge := idx_ge u l (i + 1) x h
      have e1 : x.1 - i = (x.1 - (i + 1)) + 1 := by omega
      rw [e1]
      simp [upd, e, ents, ih (j + 1) (i + 1) h]

/-- the key that stands where u is found is u's own -/
theorem key_there (Pb u : Nat) (l : List (Nat × Bool)) (j i : Nat) (x : Nat × Bool) (h : idx u l i = some x) : ((ents Pb j l)[x.1 - i]?).map (·.key) = some (uv Pb u) := by
  induction l generalizing j i with
  | nil => simp [idx] at h
  | cons y l ih =>
    obtain ⟨v, c⟩ := y
    by_cases e : u = v
    · simp [idx, e] at h; subst h; subst e; simp [ents]
    · simp [idx, e] at h
      have hge := idx_ge u l (i + 1) x h
      have e1 : x.1 - i = (x.1 - (i + 1)) + 1 := by omega
      rw [e1]
      simpa [ents] using ih (j + 1) (i + 1) h

/-- the world with another object at block r -/
def putO (w : World) (r : Nat) (o : Obj) : World := { w with heap := w.heap.setIfInBounds r o }

/-- 'm[u] = b' -/
theorem store_run (Pb u r : Nat) (b : Bool) (l : List (Nat × Bool)) (w : World) (h : w.heap[r]? = some (tab Pb l)) :
    (Instr.mapUpdate 41 (.map (some r)) (uv Pb u) (.bool b)).run Yba.prog w = .ok () (putO w r (tab Pb (upd u b l))) := by
  cases hi : idx u l 0 with
  | none =>
    have e := upd_push Pb u b l 0 0 hi
    have e2 := upd_len_push u b l 0 hi
    simp [Instr.mapUpdate, run_underlying Yba.underlying41, MapKept.run_getObj_map h, check_run, find_key, hi, MapKept.run_setObj_map _ h, Result.andThen, putO, tab, e, e2]
  | some x =>
    have e := upd_turn Pb u b l 0 0 x hi
    have e2 := upd_len_turn u b l 0 x hi
    have e3 := key_there Pb u l 0 0 x hi
    simp only [Nat.sub_zero] at e e3
    simp [Instr.mapUpdate, run_underlying Yba.underlying41, MapKept.run_getObj_map h, check_run, find_key, hi, MapKept.run_setObj_map _ h, Result.andThen, putO, tab, e, e2, e3, Instr.keyThatStays, same_bits]
end Go.Proofs.Ybulkckuw
