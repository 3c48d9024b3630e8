import Derived.Test.YbulkckycLPush
namespace Go.Proofs.Ybulkckyc
open Go.RowKit

theorem er_get (l : List Nat) (p q : Nat) : (l.eraseIdx p)[q]? = if q < p then l[q]? else l[q + 1]? := List.getElem?_eraseIdx
theorem er_getD (l : List Nat) (p q : Nat) : (l.eraseIdx p).getD q 0 = if q < p then l.getD q 0 else l.getD (q + 1) 0 := by
  rw [List.getD_eq_getElem?_getD, er_get, List.getD_eq_getElem?_getD, List.getD_eq_getElem?_getD]
  by_cases h : q < p
  · rw [if_pos h, if_pos h]
  · rw [if_neg h, if_neg h]
theorem getD_some {l : List Nat} {q x : Nat} (h : l.getD q 0 = x) (hx : 1 ≤ x) : l[q]? = some x := by
  rw [List.getD_eq_getElem?_getD] at h
  cases hq : l[q]? with
  | none => rw [hq] at h; simp at h; omega
  | some y => rw [hq] at h; simp at h; rw [h]
theorem some_getD {l : List Nat} {q x : Nat} (h : l[q]? = some x) : l.getD q 0 = x := by rw [List.getD_eq_getElem?_getD, h]; rfl

theorem Inj.erase {l : List Nat} (h : Inj l) (p : Nat) : Inj (l.eraseIdx p) := by
  intro a b x ha hb
  rw [er_get] at ha hb
  by_cases h1 : a < p <;> by_cases h2 : b < p
  · rw [if_pos h1] at ha; rw [if_pos h2] at hb; exact h a b x ha hb
  · rw [if_pos h1] at ha; rw [if_neg h2] at hb; have := h _ _ x ha hb; omega
  · rw [if_neg h1] at ha; rw [if_pos h2] at hb; have := h _ _ x ha hb; omega
  · rw [if_neg h1] at ha; rw [if_neg h2] at hb; have := h _ _ x ha hb; omega
theorem Inj.snoc {l : List Nat} (h : Inj l) {i : Nat} (hi : i ∉ l) : Inj (l ++ [i]) := by
  have key : ∀ a x, (l ++ [i])[a]? = some x → l[a]? = some x ∨ (a = l.length ∧ x = i) := fun a x ha => by
    rw [List.getElem?_append] at ha
    by_cases h1 : a < l.length
    · rw [if_pos h1] at ha; exact .inl ha
    · rw [if_neg h1] at ha
      have := (List.getElem?_eq_some_iff.1 ha).1
      have e : a - l.length = 0 := by simp at this; omega
      rw [e] at ha
      simp at ha
      exact .inr ⟨by omega, ha.symm⟩
  intro a b x ha hb
  rcases key a x ha with ha | ⟨ha, rfl⟩ <;> rcases key b x hb with hb | ⟨hb, e⟩
  · exact h a b x ha hb
  · exact absurd (List.mem_of_getElem? ha) (e ▸ hi)
  · exact absurd (List.mem_of_getElem? hb) hi
  · omega
theorem mem_erase {l : List Nat} (h : Inj l) {p e : Nat} (hp : l[p]? = some e) (x : Nat) : x ∈ l.eraseIdx p ↔ x ∈ l ∧ x ≠ e := by
  rw [List.mem_iff_getElem?, List.mem_iff_getElem?]
  constructor
  · rintro ⟨q, hq⟩
    rw [er_get] at hq
    by_cases h1 : q < p
    · rw [if_pos h1] at hq
      exact ⟨⟨q, hq⟩, fun ex => by have := h q p e (ex ▸ hq) hp; omega⟩
    · rw [if_neg h1] at hq
      exact ⟨⟨q + 1, hq⟩, fun ex => by have := h (q + 1) p e (ex ▸ hq) hp; omega⟩
  · rintro ⟨⟨q, hq⟩, hne⟩
    by_cases h1 : q < p
    · exact ⟨q, by rw [er_get, if_pos h1]; exact hq⟩
    · by_cases h2 : q = p
      · subst h2; rw [hp] at hq; cases hq; exact absurd rfl hne
      · refine ⟨q - 1, ?_⟩
        rw [er_get, if_neg (by omega), show q - 1 + 1 = q from by omega]; exact hq

theorem chain_erase {en en' : Nat → Nat → Value} {l : List Nat} {p e : Nat} (hc : Chain en l) (hi : Inj l) (h1 : ∀ x, x ∈ l → 1 ≤ x) (hp : l[p]? = some e)
    (hen : ∀ a f, 1 ≤ a → f < 5 → en' a f = if a = e ∧ (f = 3 ∨ f = 4) then i32v 0 else if a = pv l p ∧ f = 4 then i32v (nx l p) else if a = nx l p ∧ f = 3 then i32v (pv l p) else en a f) : Chain en' (l.eraseIdx p) := by
  intro q a hq
  have hm := (mem_erase hi hp a).1 (List.mem_of_getElem? hq)
  have ha1 := h1 a hm.1
  have f3 : en' a 3 = if a = nx l p then i32v (pv l p) else en a 3 := by
    rw [hen a 3 ha1 (by omega), if_neg (fun x => hm.2 x.1), if_neg (fun x => by omega)]
    by_cases h : a = nx l p
    · rw [if_pos ⟨h, rfl⟩, if_pos h]
    · rw [if_neg (fun x => h x.1), if_neg h]
  have f4 : en' a 4 = if a = pv l p then i32v (nx l p) else en a 4 := by
    rw [hen a 4 ha1 (by omega), if_neg (fun x => hm.2 x.1)]
    by_cases h : a = pv l p
    · rw [if_pos ⟨h, rfl⟩, if_pos h]
    · rw [if_neg (fun x => h x.1), if_neg (fun x => by omega), if_neg h]
  rw [f3, f4]
  rw [er_get] at hq
  by_cases hqp : q < p
  · rw [if_pos hqp] at hq
    obtain ⟨c3, c4⟩ := hc q a hq
    have n1 : a ≠ nx l p := fun x => by
      have := hi q (p + 1) a hq (getD_some x.symm ha1)
      omega
    have e3 : pv (l.eraseIdx p) q = pv l q := by
      unfold pv
      by_cases h0 : q = 0
      · rw [if_pos h0, if_pos h0]
      · rw [if_neg h0, if_neg h0, er_getD, if_pos (by omega)]
    rw [if_neg n1, e3, c3]
    refine ⟨rfl, ?_⟩
    by_cases hq1 : q + 1 = p
    · have e : a = pv l p := by unfold pv; rw [if_neg (by omega), ← hq1]; exact (some_getD hq).symm
      rw [if_pos e]
      unfold nx
      rw [er_getD, if_neg (by omega), hq1]
    · have n2 : a ≠ pv l p := fun x => by
        unfold pv at x
        rw [if_neg (by omega)] at x
        have := hi q (p - 1) a hq (getD_some x.symm ha1)
        omega
      rw [if_neg n2, c4]
      unfold nx
      rw [er_getD, if_pos (by omega)]
  · rw [if_neg hqp] at hq
    obtain ⟨c3, c4⟩ := hc (q + 1) a hq
    have n2 : a ≠ pv l p := fun x => by
      unfold pv at x
      by_cases h0 : p = 0
      · rw [if_pos h0] at x; omega
      · rw [if_neg h0] at x
        have := hi (q + 1) (p - 1) a hq (getD_some x.symm ha1)
        omega
    have e4 : nx (l.eraseIdx p) q = nx l (q + 1) := by
      unfold nx
      rw [er_getD, if_neg (by omega)]
    rw [if_neg n2, c4, e4]
    refine ⟨?_, rfl⟩
    by_cases hqe : q = p
    · subst hqe
      have e : a = nx l q := (some_getD hq).symm
      rw [if_pos e]
      unfold pv
      by_cases h0 : q = 0
      · rw [if_pos h0, if_pos h0]
      · rw [if_neg h0, if_neg h0, er_getD, if_pos (by omega)]
    · have n1 : a ≠ nx l p := fun x => by
        have := hi (q + 1) (p + 1) a hq (getD_some x.symm ha1)
        omega
      rw [if_neg n1, c3]
      unfold pv
      rw [if_neg (by omega), if_neg (by omega), er_getD, if_neg (by omega), show q - 1 + 1 = q from by omega, show q + 1 - 1 = q from by omega]

theorem headD_getD (l : List Nat) : l.headD 0 = l.getD 0 0 := by cases l <;> rfl
theorem lastD_getD (l : List Nat) : l.getLastD 0 = if l.length = 0 then 0 else l.getD (l.length - 1) 0 := by
  rw [List.getLastD_eq_getLast?, List.getLast?_eq_getElem?]
  by_cases h : l.length = 0
  · rw [if_pos h, List.getElem?_eq_none (by omega)]; rfl
  · rw [if_neg h, List.getD_eq_getElem?_getD]
theorem head_erase (l : List Nat) (p : Nat) : (l.eraseIdx p).headD 0 = if p = 0 then nx l p else l.headD 0 := by
  rw [headD_getD, er_getD, headD_getD]
  by_cases h : p = 0
  · rw [if_neg (by omega), if_pos h, h]; rfl
  · rw [if_pos (by omega), if_neg h]
theorem last_erase {l : List Nat} {p : Nat} (hp : p < l.length) (h1 : ∀ x, x ∈ l → 1 ≤ x) : (l.eraseIdx p).getLastD 0 = if nx l p = 0 then pv l p else l.getLastD 0 := by
  have hlen : (l.eraseIdx p).length = l.length - 1 := by rw [List.length_eraseIdx, if_pos hp]
  have hn : nx l p = 0 ↔ p + 1 = l.length := by
    unfold nx
    rw [List.getD_eq_getElem?_getD]
    constructor
    · intro h
      refine Nat.le_antisymm (by omega) (Nat.le_of_not_lt fun hl => ?_)
      rw [List.getElem?_eq_getElem hl] at h
      have := h1 _ (List.getElem_mem hl)
      simp at h; omega
    · intro h
      rw [List.getElem?_eq_none (by omega)]; rfl
  rw [lastD_getD, hlen, lastD_getD, if_neg (show ¬ l.length = 0 by omega), er_getD]
  by_cases e : p + 1 = l.length
  · rw [if_pos (hn.2 e)]
    unfold pv
    by_cases h0 : p = 0
    · rw [if_pos (by omega), if_pos h0]
    · rw [if_neg (by omega), if_pos (by omega), if_neg h0, show l.length - 1 - 1 = p - 1 from by omega]
  · rw [if_neg (fun x => e (hn.1 x)), if_neg (by omega), if_neg (by omega), show l.length - 1 - 1 + 1 = l.length - 1 from by omega]

theorem chain_snoc {en en' : Nat → Nat → Value} {l : List Nat} {i : Nat} (hc : Chain en l) (hi : Inj l) (h1 : ∀ x, x ∈ l → 1 ≤ x) (hil : i ∉ l) (hi1 : 1 ≤ i)
    (hen : ∀ a f, 1 ≤ a → f < 5 → en' a f = if a = i ∧ f = 3 then i32v (l.getLastD 0) else if a = i ∧ f = 4 then i32v 0 else if a = l.getLastD 0 ∧ f = 4 then i32v i else en a f) : Chain en' (l ++ [i]) := by
  have gd : ∀ q, (l ++ [i]).getD q 0 = if q < l.length then l.getD q 0 else if q = l.length then i else 0 := fun q => by
    rw [List.getD_eq_getElem?_getD, List.getElem?_append, List.getD_eq_getElem?_getD]
    by_cases h : q < l.length
    · rw [if_pos h, if_pos h]
    · rw [if_neg h, if_neg h]
      by_cases e : q = l.length
      · rw [if_pos e, e]; simp
      · rw [if_neg e, List.getElem?_eq_none (by simp; omega)]; rfl
  have hlast := lastD_getD l
  intro q a hq
  rw [List.getElem?_append] at hq
  by_cases hql : q < l.length
  · rw [if_pos hql] at hq
    obtain ⟨c3, c4⟩ := hc q a hq
    have hai : a ≠ i := fun x => hil (x ▸ List.mem_of_getElem? hq)
    have ha1 := h1 a (List.mem_of_getElem? hq)
    rw [hen a 3 ha1 (by omega), hen a 4 ha1 (by omega), if_neg (fun x => hai x.1), if_neg (fun x => hai x.1), if_neg (fun x => by omega), if_neg (fun x => hai x.1), if_neg (fun x => hai x.1), c3]
    refine ⟨?_, ?_⟩
    · unfold pv
      by_cases h0 : q = 0
      · rw [if_pos h0, if_pos h0]
      · rw [if_neg h0, if_neg h0, gd, if_pos (by omega)]
    · unfold nx
      rw [gd]
      rw [if_neg (by omega)] at hlast
      by_cases e : q + 1 = l.length
      · have e2 : a = l.getLastD 0 := by rw [hlast, ← e]; exact (some_getD hq).symm
        rw [if_pos ⟨e2, rfl⟩, if_neg (by omega), if_pos e]
      · have e2 : a ≠ l.getLastD 0 := fun x => by
          rw [hlast] at x
          have := hi q (l.length - 1) a hq (getD_some x.symm ha1)
          omega
        rw [if_neg (fun x => e2 x.1), if_pos (by omega), c4]
        rfl
  · rw [if_neg hql] at hq
    have hl := (List.getElem?_eq_some_iff.1 hq).1
    have e : q = l.length := by simp at hl; omega
    subst e
    simp at hq
    subst hq
    rw [hen i 3 hi1 (by omega), hen i 4 hi1 (by omega), if_pos ⟨rfl, rfl⟩, if_neg (fun x => by omega), if_pos ⟨rfl, rfl⟩]
    refine ⟨?_, ?_⟩
    · unfold pv
      rw [hlast]
      by_cases h0 : l.length = 0
      · rw [if_pos h0, if_pos h0]
      · rw [if_neg h0, if_neg h0, gd, if_pos (by omega)]
    · unfold nx
      rw [gd, if_neg (by omega), if_neg (by omega)]
theorem head_snoc (l : List Nat) (i : Nat) : (l ++ [i]).headD 0 = if l = [] then i else l.headD 0 := by
  cases l <;> simp
theorem last_snoc (l : List Nat) (i : Nat) : (l ++ [i]).getLastD 0 = i := by simp
end Go.Proofs.Ybulkckyc
