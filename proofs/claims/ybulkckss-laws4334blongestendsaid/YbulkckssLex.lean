import Derived.Lib.Bytealg
namespace Go.Proofs.Ybulkckss
open Go.Lib

theorem cb_refl (a : List UInt8) : compareBytes a a = 0 := by
  induction a with
  | nil => rfl
  | cons x xs ih =>
    have h : ¬ x < x := UInt8.lt_irrefl x
    simp only [compareBytes, if_neg h]; exact ih
theorem u8_tri (x y : UInt8) : x < y ∨ y < x ∨ x = y := by
  rcases Nat.lt_trichotomy x.toNat y.toNat with h | h | h
  · exact .inl (UInt8.lt_iff_toNat_lt.2 h)
  · exact .inr (.inr (UInt8.toNat_inj.1 h))
  · exact .inr (.inl (UInt8.lt_iff_toNat_lt.2 h))
theorem u8_asym {x y : UInt8} (h : x < y) : ¬ y < x := fun h' => by
  have := UInt8.lt_iff_toNat_lt.1 h
  have := UInt8.lt_iff_toNat_lt.1 h'
  omega
theorem cb_swap (a b : List UInt8) : compareBytes b a = - compareBytes a b := by
  induction a generalizing b with
  | nil => cases b <;> rfl
  | cons x xs ih =>
    cases b with
    | nil => rfl
    | cons y ys =>
      simp only [compareBytes]
      rcases u8_tri x y with h | h | h
      · rw [if_neg (u8_asym h), if_pos h, if_pos h]; rfl
      · rw [if_pos h, if_neg (u8_asym h), if_pos h]
      · subst h
        have h : ¬ x < x := UInt8.lt_irrefl x
        rw [if_neg h, if_neg h, if_neg h, if_neg h]; exact ih ys
theorem cb_eq {a b : List UInt8} (h : compareBytes a b = 0) : a = b := by
  induction a generalizing b with
  | nil =>
    cases b with
    | nil => rfl
    | cons y ys => simp [compareBytes] at h
  | cons x xs ih =>
    cases b with
    | nil => simp [compareBytes] at h
    | cons y ys =>
      simp only [compareBytes] at h
      rcases u8_tri x y with hx | hx | hx
      · rw [if_pos hx] at h; simp at h
      · rw [if_neg (u8_asym hx), if_pos hx] at h; simp at h
      · subst hx
        have hn : ¬ x < x := UInt8.lt_irrefl x
        rw [if_neg hn, if_neg hn] at h
        rw [ih h]
theorem cb_trans {a b c : List UInt8} (h1 : compareBytes a b ≤ 0) (h2 : compareBytes b c ≤ 0) : compareBytes a c ≤ 0 := by
  induction a generalizing b c with
  | nil => cases c <;> simp [compareBytes]
  | cons x xs ih =>
    cases b with
    | nil => simp [compareBytes] at h1
    | cons y ys =>
      cases c with
      | nil => simp [compareBytes] at h2
      | cons z zs =>
        simp only [compareBytes] at h1 h2 ⊢
        rcases u8_tri x y with hx | hx | hx
        · rcases u8_tri y z with hy | hy | hy
          · have : x < z := UInt8.lt_iff_toNat_lt.2 (by have := UInt8.lt_iff_toNat_lt.1 hx; have := UInt8.lt_iff_toNat_lt.1 hy; omega)
            rw [if_pos this]; decide
          · rw [if_neg (u8_asym hy), if_pos hy] at h2; simp at h2
          · subst hy; rw [if_pos hx]; decide
        · rw [if_neg (u8_asym hx), if_pos hx] at h1; simp at h1
        · subst hx
          rcases u8_tri x z with hy | hy | hy
          · rw [if_pos hy]; decide
          · rw [if_neg (u8_asym hy), if_pos hy] at h2; simp at h2
          · subst hy
            have hn : ¬ x < x := UInt8.lt_irrefl x
            rw [if_neg hn, if_neg hn] at h1 h2 ⊢
            exact ih h1 h2
/-- a beginning of the least and of the greatest begins all between them -/
theorem cb_between {p u v t : List UInt8} (h1 : compareBytes u v ≤ 0) (h2 : compareBytes v t ≤ 0) (hu : p <+: u) (ht : p <+: t) : p <+: v := by
  induction p generalizing u v t with
  | nil => exact List.nil_prefix
  | cons x xs ih =>
    obtain ⟨u', rfl⟩ := hu
    obtain ⟨t', rfl⟩ := ht
    cases v with
    | nil => simp [compareBytes] at h1
    | cons y ys =>
      simp only [List.cons_append, compareBytes] at h1 h2
      rcases u8_tri x y with hx | hx | hx
      · rw [if_neg (u8_asym hx), if_pos hx] at h2; simp at h2
      · rw [if_neg (u8_asym hx), if_pos hx] at h1; simp at h1
      · subst hx
        have hn : ¬ x < x := UInt8.lt_irrefl x
        rw [if_neg hn, if_neg hn] at h1 h2
        exact List.cons_prefix_cons.2 ⟨rfl, ih h1 h2 (List.prefix_append _ _) (List.prefix_append _ _)⟩
end Go.Proofs.Ybulkckss
