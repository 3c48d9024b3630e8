import Derived.Test.YbulkckssFin
import Derived.Test.YbulkckssBld
import Derived.Test.YbulkckssSym
namespace Go.Proofs.Ybulkckss

/-- from the edges in order to what the finder's edges mean -/
theorem fe_of {P : List UInt8 → Prop} {N m z : Nat} {wd : Nat → List Nat} {e g : Nat → Ed} {ef et sta : Nat → Nat} (B : Bld P N wd e) (hm : m + 1 = N) (p : PermF 0 m e g) (hz1 : ∀ i, i < z → (g i).fr = 0) (hz2 : ∀ i, z ≤ i → i < m → (g i).fr ≠ 0) (hzm : z ≤ m)
    (hr : ∀ s, 0 < s → s < N → (ef s = 0 ∧ et s = 0 ∧ ∀ i, i < m → (g i).fr ≠ s) ∨ (ef s < et s ∧ z + et s ≤ m ∧ ∀ i, i < m → ((g i).fr = s ↔ z + ef s ≤ i ∧ i < z + et s)))
    (hsta : ∀ b, b < 256 → (sta b = 0 ∧ ∀ i, i < z → (g i).b ≠ b) ∨ ∃ i, i < z ∧ (g i).b = b ∧ sta b = (g i).tt) :
    FE N (m - z) wd ef et (fun j => ((g (z + j)).b, (g (z + j)).tt)) sta := by
  have T := B.tr
  have eT : ∀ j, j < m → (e j).tt = j + 1 ∧ (e j).fr < N ∧ (e j).b < 256 ∧ wd (j + 1) = wd (e j).fr ++ [(e j).b] := fun j hj => B.ed (j + 1) (by omega) (by omega)
  have G : ∀ i, i < m → g i = e ((g i).tt - 1) ∧ 0 < (g i).tt ∧ (g i).tt < N ∧ (g i).b < 256 ∧ wd (g i).tt = wd (g i).fr ++ [(g i).b] := fun i hi => by
    obtain ⟨j, _, hj, ej⟩ := p.bk (Nat.zero_le i) hi
    obtain ⟨h1, h2, h3, h4⟩ := eT j hj
    have ht : (g i).tt = j + 1 := by rw [ej]; exact h1
    refine ⟨by rw [ht, ej]; rfl, by omega, by omega, by rw [ej]; exact h3, ?_⟩
    rw [ht, h4, ej]
  have F : ∀ t s b, 0 < t → t < N → s < N → wd t = wd s ++ [b] → ∃ i, i < m ∧ g i = e (t - 1) ∧ (g i).tt = t ∧ (g i).fr = s ∧ (g i).b = b := fun t s b h0 ht hs ew => by
    obtain ⟨h1, h2, h3, h4⟩ := B.ed t h0 ht
    rw [ew] at h4
    have e1 := List.append_inj' h4 rfl
    have e2 : b = (e (t - 1)).b := by simpa using e1.2
    have e3 := T.inj s (e (t - 1)).fr hs h2 e1.1
    obtain ⟨i, _, hi, ei⟩ := p.fw (Nat.zero_le (t - 1)) (show t - 1 < m by omega)
    exact ⟨i, hi, ei, by rw [ei]; exact h1, by rw [ei]; exact e3.symm, by rw [ei]; exact e2.symm⟩
  refine ⟨fun s h0 hs => ?_, fun s j h0 hs hj1 hj2 => ?_, fun s t b h0 hs ht ew => ?_, fun s i j h0 hs hi1 hi2 hj1 hj2 e1 => ?_, fun j hj => (G (z + j) (by omega)).2.2.2.1, fun b hb => ?_⟩
  · rcases hr s h0 hs with ⟨h1, h2, _⟩ | ⟨h1, h2, _⟩ <;> omega
  · rcases hr s h0 hs with ⟨h1, h2, _⟩ | ⟨h1, h2, h3⟩
    · omega
    · obtain ⟨_, g1, g2, _, g4⟩ := G (z + j) (by omega)
      refine ⟨g2, g1, ?_⟩
      have := (h3 (z + j) (by omega)).2 ⟨by omega, by omega⟩
      rw [this] at g4
      exact g4
  · have t0 : 0 < t := by
      refine Nat.pos_of_ne_zero fun e0 => ?_
      rw [e0, T.root] at ew
      have := congrArg List.length ew
      simp at this
    obtain ⟨i, hi, _, h1, h2, h3⟩ := F t s b t0 ht hs ew
    rcases hr s h0 hs with ⟨_, _, h6⟩ | ⟨h4, h5, h6⟩
    · exact absurd h2 (h6 i hi)
    · obtain ⟨h7, h8⟩ := (h6 i hi).1 h2
      refine ⟨i - z, by omega, by omega, ?_⟩
      show ((g (z + (i - z))).b, (g (z + (i - z))).tt) = (b, t)
      rw [show z + (i - z) = i from by omega, h1, h3]
  · rcases hr s h0 hs with ⟨h1, h2, _⟩ | ⟨h1, h2, h3⟩
    · omega
    · have a1 := (G (z + i) (by omega)).1
      have a2 := (G (z + j) (by omega)).1
      have e2 : (g (z + i)).tt = (g (z + j)).tt := e1
      have e3 : g (z + i) = g (z + j) := by rw [a1, a2, e2]
      have hinj : ∀ x y, 0 ≤ x → x < m → 0 ≤ y → y < m → e x = e y → x = y := fun x y _ hx _ hy exy => by
        have h1 := (eT x hx).1
        have h2 := (eT y hy).1
        rw [exy] at h1
        omega
      have := p.inj hinj (Nat.zero_le (z + i)) (by omega) (Nat.zero_le (z + j)) (by omega) e3
      omega
  · rcases hsta b hb with ⟨h1, h2⟩ | ⟨i, h1, h2, h3⟩
    · left
      refine ⟨h1, fun t ht ew => ?_⟩
      have t0 : 0 < t := by
        refine Nat.pos_of_ne_zero fun e0 => ?_
        rw [e0, T.root] at ew
        simp at ew
      obtain ⟨i, hi, _, _, h4, h5⟩ := F t 0 b t0 ht T.pos (by rw [T.root]; exact ew)
      have : i < z := by
        refine Nat.lt_of_not_le fun hge => ?_
        exact hz2 i hge hi h4
      exact h2 i this h5
    · right
      obtain ⟨_, g1, g2, _, g4⟩ := G i (by omega)
      rw [h3]
      refine ⟨g1, g2, ?_⟩
      rw [g4, hz1 i h1, T.root, h2]
      rfl
end Go.Proofs.Ybulkckss
