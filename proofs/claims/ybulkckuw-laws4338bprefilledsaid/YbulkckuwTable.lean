import Derived.Test.YbulkckuwUses
namespace Go.Proofs.Ybulkckuw

theorem idx_upd (k c : Nat) (b : Bool) (l : List (Nat × Bool)) (i : Nat) :
    ((idx k (upd c b l) i).isSome = (decide (k = c) || (idx k l i).isSome)) ∧ (((idx k (upd c b l) i).map (·.2)).getD false = if k = c then b else ((idx k l i).map (·.2)).getD false) := by
  induction l generalizing i with
  | nil =>
    by_cases h : k = c
    · subst h; simp [upd, idx]
    · simp [upd, idx, h]
  | cons x l ih =>
    obtain ⟨v, d⟩ := x
    by_cases hc : c = v
    · subst hc
      by_cases h : k = c
      · subst h; simp [upd, idx]
      · simp [upd, idx, h]
    · by_cases hk : k = v
      · subst hk
        have : ¬ k = c := fun e => hc e.symm
        simp [upd, hc, idx, this]
      · have := ih (i + 1)
        simp [upd, hc, idx, hk, this.1, this.2]

theorem some_upd (k c : Nat) (b : Bool) (l : List (Nat × Bool)) : (idx k (upd c b l) 0).isSome = (decide (k = c) || (idx k l 0).isSome) := (idx_upd k c b l 0).1
theorem val_upd (k c : Nat) (b : Bool) (l : List (Nat × Bool)) : val k (upd c b l) = if k = c then b else val k l := (idx_upd k c b l 0).2

theorem len_upd (c : Nat) (b : Bool) (l : List (Nat × Bool)) : (upd c b l).length = l.length + if (idx c l 0).isSome then 0 else 1 := by
  cases h : idx c l 0 with
  | none => simpa using upd_len_push c b l 0 h
  | some x => simpa using upd_len_turn c b l 0 x h

/-- how many k below n answer yes -/
def cnt (f : Nat → Bool) : Nat → Nat
  | 0 => 0
  | n + 1 => cnt f n + if f n then 1 else 0

theorem cnt_le (f : Nat → Bool) (n : Nat) : cnt f n ≤ n := by
  induction n with
  | zero => simp [cnt]
  | succ n ih => simp only [cnt]; split <;> omega

theorem cnt_congr {f g : Nat → Bool} {n : Nat} (h : ∀ k, k < n → f k = g k) : cnt f n = cnt g n := by
  induction n with
  | zero => rfl
  | succ n ih => simp only [cnt]; rw [ih (fun k hk => h k (by omega)), h n (by omega)]

theorem cnt_add (f : Nat → Bool) (c n : Nat) (hc : c < n) (hf : f c = false) : cnt (fun k => decide (k = c) || f k) n = cnt f n + 1 := by
  induction n with
  | zero => omega
  | succ n ih =>
    simp only [cnt]
    by_cases h : c = n
    · subst h
      have : cnt (fun k => decide (k = c) || f k) c = cnt f c := cnt_congr (fun k hk => by
        have : ¬ k = c := by omega
        simp [this])
      simp [this, hf]
    · have h' : ¬ n = c := fun e => h e.symm
      rw [ih (by omega)]
      simp [h']
      omega

/-- the marks: 1: present and false; 2: true; else absent -/
def m1 (ms : Nat → Nat) (k : Nat) : Bool := ms k % 3 == 1
def m2 (ms : Nat → Nat) (k : Nat) : Bool := ms k % 3 == 2

/-- the table as the marks lay it -/
def pre (ms : Nat → Nat) : Nat → List (Nat × Bool)
  | 0 => []
  | n + 1 => if m1 ms n then upd n false (pre ms n) else if m2 ms n then upd n true (pre ms n) else pre ms n

/-- what is known of the table l when the uses rf have been referred to -/
structure Good (ms : Nat → Nat) (rf : Nat → Bool) (l : List (Nat × Bool)) : Prop where
  some : ∀ k, k < 10 → (idx k l 0).isSome = (m1 ms k || m2 ms k || rf k)
  val : ∀ k, k < 10 → val k l = (m2 ms k || rf k)
  len : l.length = cnt (fun k => m1 ms k || m2 ms k || rf k) 10

theorem m12 (ms : Nat → Nat) (k : Nat) (h : m1 ms k = true) : m2 ms k = false := by
  unfold m1 at h; unfold m2; simp at h; simp [h]

theorem pre_good (ms : Nat → Nat) (n : Nat) : (∀ k, (idx k (pre ms n) 0).isSome = (decide (k < n) && (m1 ms k || m2 ms k))) ∧ (∀ k, Ybulkckuw.val k (pre ms n) = (decide (k < n) && m2 ms k)) ∧ (pre ms n).length = cnt (fun k => m1 ms k || m2 ms k) n := by
  induction n with
  | zero => exact ⟨fun k => by simp [pre, idx], fun k => by simp [pre, Ybulkckuw.val, idx], by simp [pre, cnt]⟩
  | succ n ih =>
    obtain ⟨h1, h2, h3⟩ := ih
    have hn : (idx n (pre ms n) 0).isSome = false := by rw [h1]; simp
    have hlt : ∀ k, decide (k < n + 1) = (decide (k = n) || decide (k < n)) := fun k => by rw [Bool.eq_iff_iff]; simp; omega
    cases e1 : m1 ms n
    · cases e2 : m2 ms n
      · have hp : pre ms (n + 1) = pre ms n := by simp [pre, e1, e2]
        rw [hp]
        refine ⟨fun k => ?_, fun k => ?_, by simp [cnt, e1, e2, h3]⟩
        · rw [h1, hlt]
          by_cases h : k = n
          · subst h; simp [e1, e2]
          · simp [h]
        · rw [h2, hlt]
          by_cases h : k = n
          · subst h; simp [e2]
          · simp [h]
      · have hp : pre ms (n + 1) = upd n true (pre ms n) := by simp [pre, e1, e2]
        rw [hp]
        refine ⟨fun k => ?_, fun k => ?_, by rw [len_upd, hn, h3]; simp [cnt, e1, e2]⟩
        · rw [some_upd, h1, hlt]
          by_cases h : k = n
          · subst h; simp [e2]
          · simp [h]
        · rw [val_upd, h2, hlt]
          by_cases h : k = n
          · subst h; simp [e2]
          · simp [h]
    · have e2 := m12 ms n e1
      have hp : pre ms (n + 1) = upd n false (pre ms n) := by simp [pre, e1]
      rw [hp]
      refine ⟨fun k => ?_, fun k => ?_, by rw [len_upd, hn, h3]; simp [cnt, e1, e2]⟩
      · rw [some_upd, h1, hlt]
        by_cases h : k = n
        · subst h; simp [e1]
        · simp [h]
      · rw [val_upd, h2, hlt]
        by_cases h : k = n
        · subst h; simp [e2]
        · simp [h]

theorem good0 (ms : Nat → Nat) : Good ms (fun _ => false) (pre ms 10) := by
  obtain ⟨h1, h2, h3⟩ := pre_good ms 10
  exact ⟨fun k hk => by rw [h1]; simp [hk], fun k hk => by rw [h2]; simp [hk], by rw [h3]; exact cnt_congr (fun k _ => by simp)⟩

/-- a reference to c: c is among the referred -/
def touch (rf : Nat → Bool) (c : Nat) : Nat → Bool := fun k => decide (k = c) || rf k

theorem good_seen {ms : Nat → Nat} {rf : Nat → Bool} {l : List (Nat × Bool)} (h : Good ms rf l) (c : Nat) (hc : c < 10) (hv : Ybulkckuw.val c l = true) : Good ms (touch rf c) l := by
  have hvc := h.val c hc
  rw [hv] at hvc
  refine ⟨fun k hk => ?_, fun k hk => ?_, ?_⟩
  · rw [h.some k hk]
    unfold touch
    by_cases e : k = c
    · subst e
      revert hvc
      cases m1 ms k <;> cases m2 ms k <;> cases rf k <;> simp
    · simp [e]
  · rw [h.val k hk]
    unfold touch
    by_cases e : k = c
    · subst e; simp [← hvc]
    · simp [e]
  · rw [h.len]
    refine cnt_congr (fun k hk => ?_)
    unfold touch
    by_cases e : k = c
    · subst e
      revert hvc
      cases m1 ms k <;> cases m2 ms k <;> cases rf k <;> simp
    · simp [e]

theorem good_new {ms : Nat → Nat} {rf : Nat → Bool} {l : List (Nat × Bool)} (h : Good ms rf l) (c : Nat) (hc : c < 10) (hv : Ybulkckuw.val c l = false) : Good ms (touch rf c) (upd c true l) := by
  have hvc := h.val c hc
  rw [hv] at hvc
  have h2 : m2 ms c = false := by revert hvc; cases m2 ms c <;> cases rf c <;> simp
  have h3 : rf c = false := by revert hvc; cases m2 ms c <;> cases rf c <;> simp
  refine ⟨fun k hk => ?_, fun k hk => ?_, ?_⟩
  · rw [some_upd, h.some k hk]
    unfold touch
    by_cases e : k = c
    · subst e; simp
    · simp [e]
  · rw [val_upd, h.val k hk]
    unfold touch
    by_cases e : k = c
    · subst e; simp
    · simp [e]
  · rw [len_upd, h.some c hc, h.len, h2, h3]
    cases h1 : m1 ms c
    · have := cnt_add (fun k => m1 ms k || m2 ms k || rf k) c 10 hc (by simp [h1, h2, h3])
      simp only [Bool.or_false, Bool.false_eq_true, if_false]
      rw [← this]
      refine cnt_congr (fun k _ => ?_)
      unfold touch
      cases m1 ms k <;> cases m2 ms k <;> cases rf k <;> simp
    · simp only [Bool.or_false, if_true, Nat.add_zero]
      refine cnt_congr (fun k _ => ?_)
      unfold touch
      by_cases e : k = c
      · subst e; simp [h1]
      · simp [e]

/-- the queue: of the referred uses those not marked true, in the order of their first reference -/
def addP (ms : Nat → Nat) (us : List Nat) (c : Nat) : List Nat := if m2 ms c || has us c then us else us ++ [c]
/-- the queue answers for the referred uses -/
def Fit (ms : Nat → Nat) (rf : Nat → Bool) (us : List Nat) : Prop := ∀ k, k < 10 → has us k = (rf k && !m2 ms k)

theorem has_append (us : List Nat) (c k : Nat) : has (us ++ [c]) k = (decide (k = c) || has us k) := by
  unfold has
  rw [List.any_append]
  by_cases e : k = c
  · subst e; simp
  · have : ¬ c = k := fun h => e h.symm
    simp [e, this]

theorem val_fit {ms : Nat → Nat} {rf : Nat → Bool} {us : List Nat} {l : List (Nat × Bool)} (h : Good ms rf l) (f : Fit ms rf us) (c : Nat) (hc : c < 10) : Ybulkckuw.val c l = (m2 ms c || has us c) := by
  rw [h.val c hc, f c hc]
  cases m2 ms c <;> simp

theorem fit_step {ms : Nat → Nat} {rf : Nat → Bool} {us : List Nat} (f : Fit ms rf us) (c : Nat) (hc : c < 10) : Fit ms (touch rf c) (addP ms us c) := by
  intro k hk
  unfold addP touch
  by_cases e : k = c
  · subst e
    cases h2 : m2 ms k
    · cases h3 : has us k
      · simp [has_append]
      · simp [h3]
    · have := f k hk
      simp [h2] at this
      simp [this]
  · split
    · rw [f k hk]; simp [e]
    · rw [has_append, f k hk]; simp [e]

theorem addP_seen {ms : Nat → Nat} {us : List Nat} {c : Nat} (h : (m2 ms c || has us c) = true) : addP ms us c = us := by simp only [addP, h, if_true]
theorem addP_new {ms : Nat → Nat} {us : List Nat} {c : Nat} (h : (m2 ms c || has us c) = false) : addP ms us c = us ++ [c] := by simp only [addP, h]; simp
end Go.Proofs.Ybulkckuw
