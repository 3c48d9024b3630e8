import Derived.Test.YbulkckssBld
namespace Go.Proofs.Ybulkckss
open Go.RowKit Go.Lib

/-- the beginnings of the first i texts in their order -/
def PP (tx : Nat → ByteArray) (od : Nat → Nat) (i : Nat) (p : List UInt8) : Prop := p = [] ∨ ∃ j, j < i ∧ p <+: bl (tx (od j))

theorem Bld.congr {P P' : List UInt8 → Prop} {N : Nat} {wd : Nat → List Nat} {e : Nat → Ed} (h : Bld P N wd e) (hp : ∀ p, P p ↔ P' p) : Bld P' N wd e := by
  have : P = P' := funext fun p => propext (hp p)
  rw [← this]; exact h

/-- between two texts: the path of the one before -/
structure OD (tx : Nat → ByteArray) (od : Nat → Nat) (i N : Nat) (wd : Nat → List Nat) (e : Nat → Ed) (path : List Nat) (p : ByteArray) : Prop where
  bld : Bld (PP tx od i) N wd e
  pz : p.size ≤ 256
  p0 : i = 0 → bl p = []
  p1 : ∀ j, i = j + 1 → p = tx (od j)
  pl : path.length = p.size
  pg : ∀ j, j < p.size → ∃ x : Nat, path[j]? = some x ∧ x < N ∧ wd x = bw ((bl p).take (j + 1))
  nb : N ≤ 1 + 256 * i
/-- inside a text T: k bytes of it are in the tree -/
structure BD (P0 : List UInt8 → Prop) (T : List UInt8) (k N : Nat) (wd : Nat → List Nat) (e : Nat → Ed) (path : List Nat) (s : Nat) : Prop where
  bld : Bld (fun p => P0 p ∨ p <+: T.take k) N wd e
  pl : path.length = k
  pg : ∀ j, j < k → ∃ x : Nat, path[j]? = some x ∧ x < N ∧ wd x = bw (T.take (j + 1))
  sN : s < N
  sw : wd s = bw (T.take k)

theorem OD.init (tx : Nat → ByteArray) (od : Nat → Nat) (e : Nat → Ed) : OD tx od 0 1 (fun _ => []) e [] ⟨#[]⟩ :=
  ⟨(Bld.init e).congr fun p => ⟨fun h => .inl h, fun h => h.resolve_right (fun ⟨j, hj, _⟩ => by omega)⟩, by decide, fun _ => rfl, fun j hj => by omega, rfl, fun j hj => absurd hj (Nat.not_lt_zero j), by omega⟩
section
variable {tx : Nat → ByteArray} {od : Nat → Nat} {n i N : Nat} {wd : Nat → List Nat} {e : Nat → Ed} {path : List Nat} {p T : ByteArray} {c : Nat}

theorem take_snoc {T : List UInt8} {k : Nat} {b : UInt8} (h : T[k]? = some b) : T.take (k + 1) = T.take k ++ [b] := by
  rw [List.take_add_one, h]; rfl
/-- what comes next is new -/
theorem OD.fresh (h : OD tx od i N wd e path p) (hs : ∀ a b, a < b → b < n → compareBytes (bl (tx (od a))) (bl (tx (od b))) ≤ 0) (hi : i < n) (hl : IsLcp (bl p) (bl (tx (od i))) c) : ∀ k, c ≤ k → k < (bl (tx (od i))).length → ¬ PP tx od i ((bl (tx (od i))).take (k + 1)) := fun k hck hk hp => by
  rcases hp with h0 | ⟨j, hj, hpre⟩
  · have := congrArg List.length h0
    rw [List.length_take] at this
    simp only [List.length_nil] at this
    omega
  · obtain ⟨i', rfl⟩ : ∃ i', i = i' + 1 := ⟨i - 1, by omega⟩
    have e1 := h.p1 i' rfl
    rw [e1] at hl
    refine new_begin hl hck hk ?_ (hs i' (i' + 1) (by omega) hi) hpre
    by_cases c : j = i'
    · rw [c, cb_refl]; exact Int.le_refl 0
    · exact hs j i' (by omega) (by omega)
/-- the text begins -/
theorem OD.enter (h : OD tx od i N wd e path p) {T : List UInt8} (hl : IsLcp (bl p) T c) {s : Nat} (hs : (c = 0 ∧ s = 0) ∨ ∃ c', c = c' + 1 ∧ path[c']? = some s) : BD (PP tx od i) T c N wd e (path.take c) s := by
  have la : c ≤ p.size := by have := hl.la; simpa using this
  have hlen : (path.take c).length = c := by rw [List.length_take, h.pl]; omega
  refine ⟨h.bld.congr fun q => ⟨fun x => .inl x, fun y => ?_⟩, hlen, fun j hj => ?_, ?_, ?_⟩
  · rcases y with x | x
    · exact x
    rw [← hl.eq] at x
    by_cases i0 : i = 0
    · rw [h.p0 i0] at x
      simp at x
      exact .inl x
    · obtain ⟨i', rfl⟩ : ∃ i', i = i' + 1 := ⟨i - 1, by omega⟩
      rw [h.p1 i' rfl] at x
      exact .inr ⟨i', by omega, x.trans (List.take_prefix _ _)⟩
  · obtain ⟨x, h1, h2, h3⟩ := h.pg j (by omega)
    refine ⟨x, by rw [List.getElem?_take, if_pos hj]; exact h1, h2, ?_⟩
    have := congrArg (List.take (j + 1)) hl.eq
    rw [List.take_take, List.take_take, Nat.min_eq_left (by omega)] at this
    rw [h3, this]
  · rcases hs with ⟨_, rfl⟩ | ⟨c', rfl, hs⟩
    · exact h.bld.tr.pos
    · obtain ⟨x, h1, h2, _⟩ := h.pg c' (by omega)
      rw [hs] at h1
      rw [Option.some.inj h1]; exact h2
  · rcases hs with ⟨rfl, rfl⟩ | ⟨c', rfl, hs⟩
    · rw [h.bld.tr.root]; rfl
    · obtain ⟨x, h1, _, h3⟩ := h.pg c' (by omega)
      rw [hs] at h1
      rw [Option.some.inj h1, h3, hl.eq]
/-- the text ends -/
theorem BD.leave {s : Nat} (h : BD (PP tx od i) (bl (tx (od i))) (tx (od i)).size N wd e path s) (hz : (tx (od i)).size ≤ 256) (hn : N ≤ 1 + 256 * i + (tx (od i)).size) : OD tx od (i + 1) N wd e path (tx (od i)) := by
  have hfull : (bl (tx (od i))).take (tx (od i)).size = bl (tx (od i)) := List.take_of_length_le (by simp)
  refine ⟨h.bld.congr fun q => ?_, hz, fun x => by omega, fun j hj => by rw [show j = i from by omega], h.pl, h.pg, by omega⟩
  rw [hfull]
  constructor
  · rintro ((a | ⟨j, hj, a⟩) | a)
    · exact .inl a
    · exact .inr ⟨j, by omega, a⟩
    · exact .inr ⟨i, by omega, a⟩
  · rintro (a | ⟨j, hj, a⟩)
    · exact .inl (.inl a)
    · by_cases c : j = i
      · rw [c] at a; exact .inr a
      · exact .inl (.inr ⟨j, by omega, a⟩)
end
/-- one byte more -/
theorem BD.step {P0 : List UInt8 → Prop} {T : List UInt8} {k m s : Nat} {wd : Nat → List Nat} {e : Nat → Ed} {path : List Nat} {b : UInt8} (h : BD P0 T k (m + 1) wd e path s) (hk : T[k]? = some b) (hn : ¬ P0 (T.take (k + 1))) :
    BD P0 T (k + 1) (m + 1 + 1) (fun x => if x = m + 1 then bw (T.take (k + 1)) else wd x) (fun j => if j = m then ⟨s, b.toNat, m + 1⟩ else e j) (path ++ [m + 1]) (m + 1) := by
  have hkl : k < T.length := (List.getElem?_eq_some_iff.1 hk).1
  have hts := take_snoc hk
  have hn2 : ¬ (P0 (T.take k ++ [b]) ∨ T.take k ++ [b] <+: T.take k) := fun x => by
    rcases x with x | x
    · rw [← hts] at x; exact hn x
    · have := x.length_le
      simp at this
      omega
  have A := h.bld.add h.sN h.sw hn2
  rw [← hts] at A
  refine ⟨A.congr fun q => ?_, by rw [List.length_append, h.pl]; rfl, fun j hj => ?_, by omega, by simp⟩
  · constructor
    · rintro ((x | x) | x)
      · exact .inl x
      · exact .inr (x.trans (by rw [hts]; exact List.prefix_append _ _))
      · rw [x]; exact .inr (List.prefix_refl _)
    · rintro (x | x)
      · exact .inl (.inl x)
      · rw [hts] at x ⊢
        rcases List.prefix_concat_iff.1 x with x | x
        · exact .inr x
        · exact .inl (.inr x)
  · by_cases c : j = k
    · refine ⟨m + 1, ?_, by omega, by simp [c]⟩
      rw [List.getElem?_append_right (by rw [h.pl]; omega), h.pl, c]
      simp
    · obtain ⟨x, h1, h2, h3⟩ := h.pg j (by omega)
      refine ⟨x, ?_, by omega, ?_⟩
      · rw [List.getElem?_append_left (by rw [h.pl]; omega)]; exact h1
      · rw [if_neg (by omega)]; exact h3
end Go.Proofs.Ybulkckss
