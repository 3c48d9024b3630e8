import Derived.Test.YbulkckssFe
namespace Go.Proofs.Ybulkckss

/-- the states' ranges behind the first i edges: z edges leave the start -/
def PR (N z i : Nat) (g : Nat → Ed) (ef et : Nat → Nat) : Prop :=
  ∀ s, 0 < s → s < N → (ef s = 0 ∧ et s = 0 ∧ ∀ j, j < i → (g j).fr ≠ s) ∨ (ef s < et s ∧ z + et s ≤ i ∧ ∀ j, j < i → ((g j).fr = s ↔ z + ef s ≤ j ∧ j < z + et s))
/-- the start behind the first i edges -/
def PS (z i : Nat) (g : Nat → Ed) (sta : Nat → Nat) : Prop := ∀ b, b < 256 → (sta b = 0 ∧ ∀ j, j < i → j < z → (g j).b ≠ b) ∨ ∃ j, j < i ∧ j < z ∧ (g j).b = b ∧ sta b = (g j).tt
section
variable {N z i m : Nat} {g : Nat → Ed} {ef et sta : Nat → Nat}

theorem PR.init : PR N z 0 g (fun _ => 0) (fun _ => 0) := fun s _ _ => .inl ⟨rfl, rfl, fun j hj => by omega⟩
theorem PS.init : PS z 0 g (fun _ => 0) := fun b _ => .inl ⟨rfl, fun j hj => by omega⟩
/-- where the start's edges end -/
theorem zeros (hs : SortF Ed.fr 0 m g) : ∃ z, z ≤ m ∧ (∀ j, j < z → (g j).fr = 0) ∧ ∀ j, z ≤ j → j < m → (g j).fr ≠ 0 := by
  induction m with
  | zero => exact ⟨0, by omega, fun j hj => by omega, fun j h1 h2 => by omega⟩
  | succ m ih =>
    obtain ⟨z, h1, h2, h3⟩ := ih (hs.mono (Nat.le_refl _) (by omega))
    by_cases hz : z = m
    · by_cases h0 : (g m).fr = 0
      · refine ⟨m + 1, by omega, fun j hj => ?_, fun j a b => by omega⟩
        by_cases e : j = m
        · rw [e]; exact h0
        · exact h2 j (by omega)
      · refine ⟨z, by omega, h2, fun j a b => ?_⟩
        have : j = m := by omega
        rw [this]; exact h0
    · refine ⟨z, by omega, h2, fun j a b => ?_⟩
      by_cases e : j = m
      · have h4 := hs.le (i := z) (j := m) (Nat.zero_le _) (by omega) (by omega)
        have h5 := h3 z (Nat.le_refl _) (by omega)
        rw [e]; omega
      · exact h3 j a (by omega)
/-- an edge of the start -/
theorem PR.skip (h : PR N z i g ef et) (h0 : (g i).fr = 0) : PR N z (i + 1) g ef et := fun s s0 sN => by
  rcases h s s0 sN with ⟨a, b, c⟩ | ⟨a, b, c⟩
  · refine .inl ⟨a, b, fun j hj => ?_⟩
    by_cases e : j = i
    · rw [e, h0]; omega
    · exact c j (by omega)
  · refine .inr ⟨a, by omega, fun j hj => ?_⟩
    by_cases e : j = i
    · rw [e, h0]
      exact ⟨fun x => by omega, fun x => by omega⟩
    · exact c j (by omega)
theorem PS.put (h : PS z i g sta) (hi : i < z) : PS z (i + 1) g (fun x => if x = (g i).b then (g i).tt else sta x) := fun b hb => by
  by_cases e : b = (g i).b
  · right
    exact ⟨i, by omega, hi, e.symm, by simp only [if_pos e]⟩
  · simp only [if_neg e]
    rcases h b hb with ⟨a, c⟩ | ⟨j, j1, j2, j3, j4⟩
    · refine .inl ⟨a, fun j hj hz => ?_⟩
      by_cases e2 : j = i
      · rw [e2]; exact fun x => e x.symm
      · exact c j (by omega) hz
    · exact .inr ⟨j, by omega, j2, j3, j4⟩
theorem PS.skip (h : PS z i g sta) (hi : z ≤ i) : PS z (i + 1) g sta := fun b hb => by
  rcases h b hb with ⟨a, c⟩ | ⟨j, j1, j2, j3, j4⟩
  · exact .inl ⟨a, fun j hj hz => c j (by omega) hz⟩
  · exact .inr ⟨j, by omega, j2, j3, j4⟩
/-- an edge of another state -/
theorem PR.put (h : PR N z i g ef et) (hs : SortF Ed.fr 0 m g) (hi : i < m) (hz : z ≤ i) :
    PR N z (i + 1) g (fun x => if x = (g i).fr then (if et (g i).fr = 0 then i - z else ef (g i).fr) else ef x) (fun x => if x = (g i).fr then i + 1 - z else et x) := fun s s0 sN => by
  by_cases e : s = (g i).fr
  · simp only [if_pos e]
    right
    rcases h s s0 sN with ⟨a, b, c⟩ | ⟨a, b, c⟩
    · rw [← e, if_pos b]
      refine ⟨by omega, by omega, fun j hj => ?_⟩
      by_cases ej : j = i
      · rw [ej]; exact ⟨fun _ => by omega, fun _ => e.symm⟩
      · have := c j (by omega)
        exact ⟨fun x => absurd x this, fun x => by omega⟩
    · rw [← e, if_neg (by omega)]
      have hend : z + et s = i := by
        refine Classical.byContradiction fun hne => ?_
        have h1 : (g (z + et s)).fr ≤ (g i).fr := hs.le (Nat.zero_le _) (by omega) hi
        have h2 : (g (z + ef s)).fr = s := (c (z + ef s) (by omega)).2 ⟨by omega, by omega⟩
        have h3 : (g (z + ef s)).fr ≤ (g (z + et s)).fr := hs.le (Nat.zero_le _) (by omega) (by omega)
        have h4 := (c (z + et s) (by omega)).1 (by omega)
        omega
      refine ⟨by omega, by omega, fun j hj => ?_⟩
      by_cases ej : j = i
      · rw [ej]; exact ⟨fun _ => by omega, fun _ => e.symm⟩
      · have := c j (by omega)
        constructor
        · intro x
          have := this.1 x
          omega
        · intro x
          exact this.2 (by omega)
  · simp only [if_neg e]
    rcases h s s0 sN with ⟨a, b, c⟩ | ⟨a, b, c⟩
    · refine .inl ⟨a, b, fun j hj => ?_⟩
      by_cases ej : j = i
      · rw [ej]; exact fun x => e x.symm
      · exact c j (by omega)
    · refine .inr ⟨a, by omega, fun j hj => ?_⟩
      by_cases ej : j = i
      · rw [ej]; exact ⟨fun x => absurd x.symm e, fun x => by omega⟩
      · exact c j (by omega)
end
end Go.Proofs.Ybulkckss
