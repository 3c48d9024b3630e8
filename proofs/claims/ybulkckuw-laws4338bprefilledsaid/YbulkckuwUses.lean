import Derived.Test.YbulkckuwFns
namespace Go.Proofs.Ybulkckuw

/-- the uses in the order of their first reference -/
def add (us : List Nat) (u : Nat) : List Nat := if has us u = true then us else us ++ [u]
def firsts (cs : List Nat) : List Nat := cs.foldl add []

theorem add_seen {us : List Nat} {u : Nat} (h : has us u = true) : add us u = us := by simp [add, h]
theorem add_new {us : List Nat} {u : Nat} (h : has us u = false) : add us u = us ++ [u] := by simp [add, h]

theorem firsts_succ (cs : List Nat) (k : Nat) (h : k < cs.length) : firsts (cs.take (k + 1)) = add (firsts (cs.take k)) (cs.getD k 0) := by
  have e : cs.getD k 0 = cs[k] := by simp [h]
  unfold firsts
  rw [e, List.take_succ_eq_append_getElem h, List.foldl_append]
  rfl

theorem add_len (us : List Nat) (u : Nat) : (add us u).length ≤ us.length + 1 := by
  unfold add; split <;> simp

theorem firsts_len (cs : List Nat) (k : Nat) : (firsts (cs.take k)).length ≤ k := by
  induction k with
  | zero => simp [firsts]
  | succ k ih =>
    by_cases h : k < cs.length
    · rw [firsts_succ cs k h]
      have := add_len (firsts (cs.take k)) (cs.getD k 0)
      omega
    · rw [List.take_of_length_le (by omega)]
      rw [List.take_of_length_le (by omega)] at ih
      omega

/-- the table of marks after such references, from an empty table -/
def marks (us : List Nat) : List (Nat × Bool) := us.map fun u => (u, true)

theorem idx_marks (u : Nat) (us : List Nat) (i : Nat) : (idx u (marks us) i).isSome = has us u ∧ (((idx u (marks us) i).map (·.2)).getD false) = has us u := by
  induction us generalizing i with
  | nil => simp [marks, idx, has]
  | cons v us ih =>
    by_cases h : u = v
    · subst h; simp [marks, idx, has]
    · have h' : ¬ v = u := fun e => h e.symm
      have := ih (i + 1)
      simp only [marks, has, List.map_cons, List.any_cons] at this ⊢
      simpa [idx, h, h'] using this

theorem val_marks (u : Nat) (us : List Nat) : val u (marks us) = has us u := (idx_marks u us 0).2
theorem some_marks (u : Nat) (us : List Nat) : (idx u (marks us) 0).isSome = has us u := (idx_marks u us 0).1

theorem upd_marks (u : Nat) (us : List Nat) (h : has us u = false) : upd u true (marks us) = marks (us ++ [u]) := by
  induction us with
  | nil => simp [marks, upd]
  | cons v us ih =>
    simp only [has, List.any_cons, Bool.or_eq_false_iff, decide_eq_false_iff_not] at h
    have h' : ¬ u = v := fun e => h.1 e.symm
    have := ih (by simpa [has] using h.2)
    simp only [marks, List.map_cons] at this ⊢
    simp [upd, h', this]

theorem has_get (us : List Nat) (k : Nat) (h : k < us.length) : has us (us.getD k 0) = true := has_of us _ k h rfl
end Go.Proofs.Ybulkckuw
