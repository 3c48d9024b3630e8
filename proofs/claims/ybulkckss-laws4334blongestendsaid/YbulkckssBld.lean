import Derived.Test.YbulkckssBfs
import Derived.Test.YbulkckssLcp
import Derived.Test.YbulkckssCmp
namespace Go.Proofs.Ybulkckss
open Go.Lib

def bw (l : List UInt8) : List Nat := l.map UInt8.toNat
theorem bw_inj {a b : List UInt8} (h : bw a = bw b) : a = b := by
  unfold bw at h
  exact (List.map_inj_right (fun x y e => UInt8.toNat_inj.1 e)).1 h
theorem bw_snoc (p : List UInt8) (b : UInt8) : bw (p ++ [b]) = bw p ++ [b.toNat] := by simp [bw]

/-- the tree as it grows: P: the beginnings that are in it; e: the edges, that into state t at t - 1 -/
structure Bld (P : List UInt8 → Prop) (N : Nat) (wd : Nat → List Nat) (e : Nat → Ed) : Prop where
  tr : Trie N wd
  inn : ∀ s, s < N → ∃ p, P p ∧ wd s = bw p
  all : ∀ p, P p → ∃ s, s < N ∧ wd s = bw p
  ed : ∀ t, 0 < t → t < N → (e (t - 1)).tt = t ∧ (e (t - 1)).fr < N ∧ (e (t - 1)).b < 256 ∧ wd t = wd (e (t - 1)).fr ++ [(e (t - 1)).b]

theorem Bld.init (e : Nat → Ed) : Bld (fun p => p = []) 1 (fun _ => []) e :=
  ⟨⟨by omega, rfl, fun s t _ _ _ => by omega, fun t h h0 => by omega⟩, fun s _ => ⟨[], rfl, rfl⟩, fun p hp => ⟨0, by omega, by rw [hp]; rfl⟩, fun t h h' => by omega⟩
theorem Bld.add {P : List UInt8 → Prop} {N : Nat} {wd : Nat → List Nat} {e : Nat → Ed} (h : Bld P N wd e) {s : Nat} {p : List UInt8} {b : UInt8} (hs : s < N) (hp : wd s = bw p) (hn : ¬ P (p ++ [b])) :
    Bld (fun q => P q ∨ q = p ++ [b]) (N + 1) (fun x => if x = N then bw (p ++ [b]) else wd x) (fun j => if j = N - 1 then ⟨s, b.toNat, N⟩ else e j) := by
  have hold : ∀ x, x < N → (if x = N then bw (p ++ [b]) else wd x) = wd x := fun x hx => if_neg (by omega)
  have hnew : ∀ x, x < N → wd x ≠ bw (p ++ [b]) := fun x hx e => by
    obtain ⟨q, hq, eq⟩ := h.inn x hx
    exact hn (by rw [← bw_inj (eq.symm.trans e)]; exact hq)
  have hpos := h.tr.pos
  refine ⟨⟨by omega, ?_, fun x y hx hy e => ?_, fun t ht h0 => ?_⟩, fun x hx => ?_, fun q hq => ?_, fun t h0 ht => ?_⟩
  · show (if 0 = N then _ else wd 0) = _
    rw [if_neg (by omega)]; exact h.tr.root
  · by_cases c1 : x = N <;> by_cases c2 : y = N
    · omega
    · simp only [if_pos c1, if_neg c2] at e
      exact absurd e.symm (hnew y (by omega))
    · simp only [if_neg c1, if_pos c2] at e
      exact absurd e (hnew x (by omega))
    · simp only [if_neg c1, if_neg c2] at e
      exact h.tr.inj x y (by omega) (by omega) e
  · by_cases c : t = N
    · refine ⟨s, b.toNat, by omega, ?_⟩
      simp only [if_pos c]
      rw [if_neg (by omega), hp, bw_snoc]
    · obtain ⟨x, c', hx, ex⟩ := h.tr.par t (by omega) h0
      refine ⟨x, c', by omega, ?_⟩
      simp only [if_neg c]
      rw [if_neg (by omega)]; exact ex
  · by_cases c : x = N
    · exact ⟨p ++ [b], .inr rfl, by simp only [if_pos c]⟩
    · obtain ⟨q, hq, eq⟩ := h.inn x (by omega)
      exact ⟨q, .inl hq, by simp only [if_neg c]; exact eq⟩
  · rcases hq with hq | rfl
    · obtain ⟨x, hx, ex⟩ := h.all q hq
      exact ⟨x, by omega, by rw [hold x hx]; exact ex⟩
    · exact ⟨N, by omega, by simp⟩
  · by_cases c : t = N
    · have e1 : (if t - 1 = N - 1 then (⟨s, b.toNat, N⟩ : Ed) else e (t - 1)) = ⟨s, b.toNat, N⟩ := if_pos (by omega)
      show (if t - 1 = N - 1 then (⟨s, b.toNat, N⟩ : Ed) else e (t - 1)).tt = t ∧ (if t - 1 = N - 1 then (⟨s, b.toNat, N⟩ : Ed) else e (t - 1)).fr < N + 1 ∧ (if t - 1 = N - 1 then (⟨s, b.toNat, N⟩ : Ed) else e (t - 1)).b < 256 ∧ (if t = N then bw (p ++ [b]) else wd t) = (if (if t - 1 = N - 1 then (⟨s, b.toNat, N⟩ : Ed) else e (t - 1)).fr = N then bw (p ++ [b]) else wd (if t - 1 = N - 1 then (⟨s, b.toNat, N⟩ : Ed) else e (t - 1)).fr) ++ [(if t - 1 = N - 1 then (⟨s, b.toNat, N⟩ : Ed) else e (t - 1)).b]
      rw [e1]
      refine ⟨c.symm, by show s < N + 1; omega, b.toNat_lt, ?_⟩
      show (if t = N then bw (p ++ [b]) else wd t) = (if s = N then bw (p ++ [b]) else wd s) ++ [b.toNat]
      rw [if_pos c, if_neg (by omega), hp, bw_snoc]
    · obtain ⟨h1, h2, h3, h4⟩ := h.ed t h0 (by omega)
      have e1 : (if t - 1 = N - 1 then (⟨s, b.toNat, N⟩ : Ed) else e (t - 1)) = e (t - 1) := if_neg (by omega)
      show (if t - 1 = N - 1 then (⟨s, b.toNat, N⟩ : Ed) else e (t - 1)).tt = t ∧ (if t - 1 = N - 1 then (⟨s, b.toNat, N⟩ : Ed) else e (t - 1)).fr < N + 1 ∧ (if t - 1 = N - 1 then (⟨s, b.toNat, N⟩ : Ed) else e (t - 1)).b < 256 ∧ (if t = N then bw (p ++ [b]) else wd t) = (if (if t - 1 = N - 1 then (⟨s, b.toNat, N⟩ : Ed) else e (t - 1)).fr = N then bw (p ++ [b]) else wd (if t - 1 = N - 1 then (⟨s, b.toNat, N⟩ : Ed) else e (t - 1)).fr) ++ [(if t - 1 = N - 1 then (⟨s, b.toNat, N⟩ : Ed) else e (t - 1)).b]
      rw [e1]
      exact ⟨h1, by omega, h3, by rw [if_neg c, if_neg (by omega)]; exact h4⟩
/-- the beginning that comes next is new -/
theorem new_begin {prev cur u : List UInt8} {c i : Nat} (hl : IsLcp prev cur c) (hci : c ≤ i) (hi : i < cur.length) (h1 : compareBytes u prev ≤ 0) (h2 : compareBytes prev cur ≤ 0) : ¬ cur.take (i + 1) <+: u := fun hp => by
  have h3 : cur.take (i + 1) <+: prev := cb_between h1 h2 hp (List.take_prefix _ _)
  have hlen : (cur.take (i + 1)).length = i + 1 := by rw [List.length_take]; omega
  have hpl := h3.length_le
  have e : prev.take (i + 1) = cur.take (i + 1) := by
    have := List.prefix_iff_eq_take.1 h3
    rw [hlen] at this
    exact this.symm
  rcases hl.mx with a | a | a
  · omega
  · omega
  · refine a ?_
    have e2 := congrArg (fun l => l[c]?) e
    simp only [List.getElem?_take] at e2
    rwa [if_pos (by omega), if_pos (by omega)] at e2
end Go.Proofs.Ybulkckss
