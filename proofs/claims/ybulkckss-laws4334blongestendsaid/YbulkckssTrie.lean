namespace Go.Proofs.Ybulkckss

/-! the tree of beginnings, with no Go in sight: N states, state s has the word wd s -/
structure Trie (N : Nat) (wd : Nat → List Nat) : Prop where
  pos : 0 < N
  root : wd 0 = []
  inj : ∀ s t, s < N → t < N → wd s = wd t → s = t
  par : ∀ t, t < N → 0 < t → ∃ s b, s < N ∧ wd t = wd s ++ [b]
section trie
variable {N : Nat} {wd : Nat → List Nat}

/-- state s is the longest end of v that is a word -/
def LS (N : Nat) (wd : Nat → List Nat) (v : List Nat) (s : Nat) : Prop := s < N ∧ wd s <:+ v ∧ ∀ t, t < N → wd t <:+ v → (wd t).length ≤ (wd s).length
/-- .. the longest proper end -/
def LP (N : Nat) (wd : Nat → List Nat) (v : List Nat) (s : Nat) : Prop := s < N ∧ wd s <:+ v ∧ (wd s).length < v.length ∧ ∀ t, t < N → wd t <:+ v → (wd t).length < v.length → (wd t).length ≤ (wd s).length

theorem suffix_le {x y v : List Nat} (hx : x <:+ v) (hy : y <:+ v) (h : x.length ≤ y.length) : x <:+ y := List.suffix_of_suffix_length_le hx hy h
theorem suffix_len {x y : List Nat} (h : x <:+ y) (hl : x.length = y.length) : x = y := h.eq_of_length hl
theorem LS.uniq (T : Trie N wd) {v : List Nat} {s t : Nat} (h : LS N wd v s) (h' : LS N wd v t) : s = t := by
  have h1 := h.2.2 t h'.1 h'.2.1
  have h2 := h'.2.2 s h.1 h.2.1
  exact T.inj _ _ h.1 h'.1 (suffix_len (suffix_le h.2.1 h'.2.1 (by omega)) (by omega))
/-- an end of v ++ [b] that is a word and not empty: one byte behind an end of v that is a word -/
theorem Trie.suffix_snoc (T : Trie N wd) {v : List Nat} {b t : Nat} (ht : t < N) (h : wd t <:+ v ++ [b]) : wd t = [] ∨ ∃ s, s < N ∧ wd s <:+ v ∧ wd t = wd s ++ [b] := by
  by_cases t0 : t = 0
  · rw [t0]; exact .inl T.root
  · obtain ⟨s, c, hs, e⟩ := T.par t ht (by omega)
    right
    rw [e] at h
    obtain ⟨u, hu⟩ := h
    rw [← List.append_assoc] at hu
    have := List.append_inj' hu rfl
    have e2 : c = b := by simpa using this.2
    exact ⟨s, hs, ⟨u, this.1⟩, by rw [e, e2]⟩
theorem snoc_suffix {x v : List Nat} {b : Nat} (h : x <:+ v) : x ++ [b] <:+ v ++ [b] := by
  obtain ⟨u, rfl⟩ := h
  exact ⟨u, by simp⟩

/-- the byte leads along an edge -/
theorem LS.edge {s t b : Nat} (ht : t < N) (e : wd t = wd s ++ [b]) : LS N wd (wd s ++ [b]) t :=
  ⟨ht, by rw [e]; exact List.suffix_refl _, fun u _ h => by rw [e]; exact h.length_le⟩
/-- no edge at the start -/
theorem LS.start (T : Trie N wd) {b : Nat} (hn : ∀ t, t < N → wd t ≠ [b]) : LS N wd [b] 0 := by
  refine ⟨T.pos, by rw [T.root]; exact List.nil_suffix, fun t ht h => ?_⟩
  rw [T.root]
  have : wd t <:+ ([] : List Nat) ++ [b] := h
  rcases T.suffix_snoc ht this with e | ⟨s, hs, hx, e⟩
  · rw [e]; exact Nat.le_refl _
  · have e0 : wd s = [] := List.suffix_nil.1 hx
    rw [e0] at e
    exact absurd e (hn t ht)
/-- no edge: along the fail link -/
theorem LS.fail (T : Trie N wd) {s f b r : Nat} (hn : ∀ t, t < N → wd t ≠ wd s ++ [b]) (hf : LP N wd (wd s) f) (hr : LS N wd (wd f ++ [b]) r) : LS N wd (wd s ++ [b]) r := by
  refine ⟨hr.1, hr.2.1.trans (snoc_suffix hf.2.1), fun t ht h => ?_⟩
  rcases T.suffix_snoc ht h with e | ⟨u, hu, hx, e⟩
  · rw [e]; exact Nat.zero_le _
  · by_cases hl : (wd u).length = (wd s).length
    · rw [suffix_len hx hl] at e
      exact absurd e (hn t ht)
    · have h1 := hx.length_le
      have h2 := hf.2.2.2 u hu hx (by omega)
      have h3 : wd u <:+ wd f := suffix_le hx hf.2.1 h2
      refine hr.2.2 t ht ?_
      rw [e]
      exact snoc_suffix h3
/-- the fail link of a child of the start -/
theorem LP.start (T : Trie N wd) {t b : Nat} (e : wd t = [b]) : LP N wd (wd t) 0 := by
  refine ⟨T.pos, by rw [T.root]; exact List.nil_suffix, by rw [T.root, e]; simp, fun u _ _ hl => ?_⟩
  rw [e] at hl
  rw [T.root]
  simp at hl
  simp [hl]
/-- .. of a child of another state -/
theorem LP.child (T : Trie N wd) {s t f b r : Nat} (e : wd t = wd s ++ [b]) (hf : LP N wd (wd s) f) (hr : LS N wd (wd f ++ [b]) r) : LP N wd (wd t) r := by
  have hfl := hf.2.2.1
  have hrl := hr.2.1.length_le
  simp at hrl
  refine ⟨hr.1, by rw [e]; exact hr.2.1.trans (snoc_suffix hf.2.1), by rw [e]; simp; omega, fun u hu h hl => ?_⟩
  rw [e] at h hl
  simp at hl
  rcases T.suffix_snoc hu h with e1 | ⟨x, hx, hxs, e1⟩
  · rw [e1]; exact Nat.zero_le _
  · have hlx : (wd x).length < (wd s).length := by
      rw [e1] at hl; simp at hl; omega
    have h2 := hf.2.2.2 x hx hxs hlx
    refine hr.2.2 u hu ?_
    rw [e1]
    exact snoc_suffix (suffix_le hxs hf.2.1 h2)
/-- one byte more is read -/
theorem LS.read (T : Trie N wd) {v : List Nat} {s b r : Nat} (h : LS N wd v s) (hr : LS N wd (wd s ++ [b]) r) : LS N wd (v ++ [b]) r := by
  refine ⟨hr.1, hr.2.1.trans (snoc_suffix h.2.1), fun t ht hx => ?_⟩
  rcases T.suffix_snoc ht hx with e | ⟨u, hu, hxs, e⟩
  · rw [e]; exact Nat.zero_le _
  · refine hr.2.2 t ht ?_
    rw [e]
    exact snoc_suffix (suffix_le hxs h.2.1 (h.2.2 u hu hxs))
theorem LS.empty (T : Trie N wd) : LS N wd [] 0 := ⟨T.pos, by rw [T.root]; exact List.suffix_refl _, fun t _ h => by rw [List.suffix_nil.1 h]; exact Nat.zero_le _⟩
end trie
end Go.Proofs.Ybulkckss
