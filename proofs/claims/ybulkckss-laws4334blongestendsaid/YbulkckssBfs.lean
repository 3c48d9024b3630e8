import Derived.Test.YbulkckssTrie
namespace Go.Proofs.Ybulkckss

/-- the queue of the states by their depth, i of them worked off -/
structure Bfs (N : Nat) (wd : Nat → List Nat) (q : List Nat) (i : Nat) : Prop where
  nd : ∀ (p p' s : Nat), q[p]? = some s → q[p']? = some s → p = p'
  mem : ∀ s, s ∈ q → 0 < s ∧ s < N
  kids : ∀ (p s t b : Nat), p < i → q[p]? = some s → t < N → wd t = wd s ++ [b] → t ∈ q
  one : ∀ (t b : Nat), t < N → wd t = [b] → t ∈ q
  src : ∀ t, t ∈ q → (∃ b, wd t = [b]) ∨ ∃ p s b, p < i ∧ q[p]? = some s ∧ wd t = wd s ++ [b]
  srt : ∀ (p p' s s' : Nat), p ≤ p' → q[p]? = some s → q[p']? = some s' → (wd s).length ≤ (wd s').length
def ND (q : List Nat) : Prop := ∀ (p p' s : Nat), q[p]? = some s → q[p']? = some s → p = p'
section
variable {N : Nat} {wd : Nat → List Nat} {q : List Nat} {i : Nat}

/-- where a state that is not the start comes from -/
theorem Trie.up (T : Trie N wd) {s : Nat} (hs : s < N) (h0 : 0 < s) : (∃ b, wd s = [b]) ∨ ∃ x b, 0 < x ∧ x < N ∧ wd s = wd x ++ [b] ∧ (wd x).length < (wd s).length := by
  obtain ⟨x, b, hx, e⟩ := T.par s hs h0
  by_cases x0 : x = 0
  · rw [x0, T.root] at e
    exact .inl ⟨b, e⟩
  · exact .inr ⟨x, b, by omega, hx, e, by rw [e]; simp⟩
theorem Bfs.shallow (T : Trie N wd) (h : Bfs N wd q i) {x : Nat} (hx : q[i]? = some x) : ∀ (d s : Nat), (wd s).length ≤ d → 0 < s → s < N → (wd s).length < (wd x).length → ∃ p, p < i ∧ q[p]? = some s := by
  have done : ∀ s, s ∈ q → (wd s).length < (wd x).length → ∃ p, p < i ∧ q[p]? = some s := fun s hm hl => by
    obtain ⟨p, hp⟩ := List.mem_iff_getElem?.1 hm
    refine ⟨p, ?_, hp⟩
    refine Nat.lt_of_not_le fun hge => ?_
    have := h.srt i p x s hge hx hp
    omega
  intro d
  induction d with
  | zero =>
    intro s hd h0 hs hl
    rcases T.up hs h0 with ⟨b, e⟩ | ⟨y, b, _, _, _, e⟩
    · rw [e] at hd; simp at hd
    · omega
  | succ d ih =>
    intro s hd h0 hs hl
    rcases T.up hs h0 with ⟨b, e⟩ | ⟨y, b, y0, yN, e, hyl⟩
    · exact done s (h.one s b hs e) hl
    · obtain ⟨p, hp, hq⟩ := ih y (by omega) y0 yN (by omega)
      exact done s (h.kids p y s b hp hq hs e) hl
theorem Bfs.all (T : Trie N wd) (h : Bfs N wd q q.length) : ∀ (d s : Nat), (wd s).length ≤ d → 0 < s → s < N → s ∈ q := by
  intro d
  induction d with
  | zero =>
    intro s hd h0 hs
    rcases T.up hs h0 with ⟨b, e⟩ | ⟨y, b, _, _, _, e⟩
    · rw [e] at hd; simp at hd
    · omega
  | succ d ih =>
    intro s hd h0 hs
    rcases T.up hs h0 with ⟨b, e⟩ | ⟨y, b, y0, yN, e, hyl⟩
    · exact h.one s b hs e
    · have hm := ih y (by omega) y0 yN
      obtain ⟨p, hp⟩ := List.mem_iff_getElem?.1 hm
      exact h.kids p y s b (List.getElem?_eq_some_iff.1 hp).1 hp hs e
theorem Bfs.init {q : List Nat} (nd : ND q) (h1 : ∀ t, t ∈ q → 0 < t ∧ t < N ∧ ∃ b, wd t = [b]) (h2 : ∀ t b, t < N → wd t = [b] → t ∈ q) : Bfs N wd q 0 := by
  refine ⟨nd, fun s hs => ⟨(h1 s hs).1, (h1 s hs).2.1⟩, fun p s t b hp => by omega, h2, fun t ht => .inl (h1 t ht).2.2, fun p p' s s' _ hp hp' => ?_⟩
  obtain ⟨_, _, b, e⟩ := h1 s (List.mem_of_getElem? hp)
  obtain ⟨_, _, b', e'⟩ := h1 s' (List.mem_of_getElem? hp')
  rw [e, e']; exact Nat.le_refl _
theorem Bfs.step (T : Trie N wd) (h : Bfs N wd q i) {x : Nat} (hx : q[i]? = some x) {K : List Nat} (nd : ND K) (h1 : ∀ t, t ∈ K → 0 < t ∧ t < N ∧ ∃ b, wd t = wd x ++ [b]) (h2 : ∀ t b, t < N → wd t = wd x ++ [b] → t ∈ K) : Bfs N wd (q ++ K) (i + 1) := by
  have hil : i < q.length := (List.getElem?_eq_some_iff.1 hx).1
  obtain ⟨x0, xN⟩ := h.mem x (List.mem_of_getElem? hx)
  have hxl : 0 < (wd x).length := by
    rcases T.up xN x0 with ⟨b, e⟩ | ⟨y, b, _, _, e, _⟩ <;> rw [e] <;> simp
  have hq : ∀ (p s : Nat), q[p]? = some s → (q ++ K)[p]? = some s := fun p s hp => by
    rw [List.getElem?_append_left (List.getElem?_eq_some_iff.1 hp).1]; exact hp
  have hsplit : ∀ (p s : Nat), (q ++ K)[p]? = some s → (p < q.length ∧ q[p]? = some s) ∨ (q.length ≤ p ∧ K[p - q.length]? = some s) := fun p s hp => by
    by_cases c : p < q.length
    · rw [List.getElem?_append_left c] at hp; exact .inl ⟨c, hp⟩
    · rw [List.getElem?_append_right (by omega)] at hp; exact .inr ⟨by omega, hp⟩
  have hnew : ∀ t, t ∈ K → t ∉ q := fun t ht hm => by
    obtain ⟨t0, tN, b, e⟩ := h1 t ht
    rcases h.src t hm with ⟨c, e1⟩ | ⟨p, s, c, hp, hps, e1⟩
    · rw [e] at e1
      have := congrArg List.length e1
      rw [List.length_append] at this
      simp only [List.length_cons, List.length_nil] at this
      omega
    · rw [e] at e1
      have e2 := (List.append_inj' e1 rfl).1
      have e3 := T.inj x s xN (h.mem s (List.mem_of_getElem? hps)).2 e2
      rw [← e3] at hps
      have := h.nd p i x hps hx
      omega
  have hdeep : ∀ s, s ∈ q → (wd s).length ≤ (wd x).length + 1 := fun s hm => by
    rcases h.src s hm with ⟨c, e1⟩ | ⟨p, y, c, hp, hpy, e1⟩
    · rw [e1]; simp
    · have := h.srt p i y x (by omega) hpy hx
      rw [e1]; simp; omega
  refine ⟨fun p p' s hp hp' => ?_, fun s hs => ?_, fun p s t b hp hs ht e => ?_, fun t b ht e => List.mem_append.2 (.inl (h.one t b ht e)), fun t ht => ?_, fun p p' s s' hpp hp hp' => ?_⟩
  · rcases hsplit p s hp with ⟨c, a⟩ | ⟨c, a⟩ <;> rcases hsplit p' s hp' with ⟨c', a'⟩ | ⟨c', a'⟩
    · exact h.nd p p' s a a'
    · exact absurd (List.mem_of_getElem? a) (hnew s (List.mem_of_getElem? a'))
    · exact absurd (List.mem_of_getElem? a') (hnew s (List.mem_of_getElem? a))
    · have := nd _ _ s a a'; omega
  · rcases List.mem_append.1 hs with m | m
    · exact h.mem s m
    · exact ⟨(h1 s m).1, (h1 s m).2.1⟩
  · rcases hsplit p s hs with ⟨c, a⟩ | ⟨c, a⟩
    · by_cases e2 : p = i
      · rw [e2, hx] at a
        have e3 : x = s := Option.some.inj a
        rw [← e3] at e
        exact List.mem_append.2 (.inr (h2 t b ht e))
      · exact List.mem_append.2 (.inl (h.kids p s t b (by omega) a ht e))
    · omega
  · rcases List.mem_append.1 ht with m | m
    · rcases h.src t m with a | ⟨p, s, b, hp, hps, e⟩
      · exact .inl a
      · exact .inr ⟨p, s, b, by omega, hq p s hps, e⟩
    · obtain ⟨_, _, b, e⟩ := h1 t m
      exact .inr ⟨i, x, b, by omega, hq i x hx, e⟩
  · rcases hsplit p s hp with ⟨c, a⟩ | ⟨c, a⟩ <;> rcases hsplit p' s' hp' with ⟨c', a'⟩ | ⟨c', a'⟩
    · exact h.srt p p' s s' hpp a a'
    · obtain ⟨_, _, b, e⟩ := h1 s' (List.mem_of_getElem? a')
      have := hdeep s (List.mem_of_getElem? a)
      rw [e]; simp; omega
    · omega
    · obtain ⟨_, _, b, e⟩ := h1 s (List.mem_of_getElem? a)
      obtain ⟨_, _, b', e'⟩ := h1 s' (List.mem_of_getElem? a')
      rw [e, e']; simp
end
end Go.Proofs.Ybulkckss
