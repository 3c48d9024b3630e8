import Derived.Test.YbulkckycDown
import Derived.Test.YbulkckycPop
namespace Go.Proofs.Ybulkckyc
open Go.RowKit
variable {w0 wx w : World} {W C G : Nat} {D : Dat} {qs : List (Nat × Nat)}

theorem len_call (h : HI D qs) (s : St w0 wx W C G D w) : Calls Yba.prog 72 #[D.wc 0 17] w fun e w' => e = .returned (.int .i64 qs.length) ∧ w' = w := by
  obtain ⟨ad, cap, hv⟩ : ∃ ad cap, D.wc 0 17 = .slice ad qs.length cap := by
    rcases s.oQ.2 with ⟨h0, h1⟩ | ⟨g, cap, cur, h0, _⟩
    · exact ⟨none, 0, by rw [h0, ← h.len, h1]⟩
    · exact ⟨_, cap, by rw [h0, h.len]⟩
  rw [hv]
  exact len_walk ad qs.length cap w

set_option maxHeartbeats 2000000 in
set_option maxRecDepth 100000 in
theorem hpush_call (h : HI D qs) (s : St w0 wx W C G D w) {A : Nat × Nat} (hA : A ∉ qs) (hb : A.1 < D.nl ∧ A.2 < 20) (hl : qs.length < 2500) :
    Calls Yba.prog 38 #[.iface 109 (.pointer (some ⟨W, 17, none⟩)), .iface 93 (D.slotP A)] w fun e w' => e = .returned (.tuple #[]) ∧ ∃ D' qs', St w0 wx W C G D' w' ∧ HI D' qs' ∧ OnlyQ D D' ∧ Same (qs ++ [A]) qs' := by
  have hm1 := meth_ptr (v := .pointer (some ⟨W, 17, none⟩)) (w := w) Yba.mPush
  have P := push_call h s hA hb hl
  have hlI : (qs.length : Int) < 2500 := by omega
  go_enter Yba.func38, Yba.ntmps38
  go_wp2_with fail
  refine P.mono ?_
  rintro e w1 ⟨rfl, D1, s1, h1, o1⟩
  clear P hm1
  have hm2 := meth_val (W := W) Yba.mLen (s1.fW.cell 0 17 (by omega) (by omega))
  have L := len_call h1 s1
  have U := hup_call h1 s1 (j := qs.length) (by simp)
  have e1 : (((qs ++ [A]).length : Nat) : Int) = (qs.length : Int) + 1 := by simp
  rw [e1] at L
  go_wp2_with fail
  refine L.mono ?_
  rintro e w2 ⟨rfl, rfl⟩
  go_wp2_with fail
  refine U.mono ?_
  rintro e w3 ⟨rfl, D3, qs3, s3, h3, o3, sm, _⟩
  go_wp2_with fail
  go_end0
  exact ⟨rfl, D3, qs3, s3, h3, o1.trans o3.toQ, sm⟩

set_option maxHeartbeats 2000000 in
set_option maxRecDepth 100000 in
theorem hremove_call (h : HI D qs) (s : St w0 wx W C G D w) {i : Nat} {A : Nat × Nat} (hA : qs[i]? = some A) :
    Calls Yba.prog 29 #[.iface 109 (.pointer (some ⟨W, 17, none⟩)), .int .i64 i] w fun e w' => (∃ v, e = .returned v) ∧ ∃ D' qs', St w0 wx W C G D' w' ∧ HI D' qs' ∧ OnlyQ D D' ∧ (∀ s, s ∈ qs' ↔ s ∈ qs ∧ s ≠ A) ∧ qs'.length + 1 = qs.length := by
  have hi : i < qs.length := (List.getElem?_eq_some_iff.1 hA).1
  have hln := h.ln
  obtain ⟨n, hn⟩ : ∃ n, qs.length = n + 1 := ⟨qs.length - 1, by omega⟩
  have hm1 := meth_val (W := W) Yba.mLen (s.fW.cell 0 17 (by omega) (by omega))
  have L := len_call h s
  have e1 : ((qs.length : Nat) : Int) = (n : Int) + 1 := by omega
  rw [e1] at L
  have hnI : (n : Int) < 2500 := by omega
  go_enter Yba.func29, Yba.ntmps29
  go_wp2_with fail
  refine L.mono ?_
  rintro e w1 ⟨rfl, rfl⟩
  clear L hm1
  by_cases hin : n = i
  · have hne : ((n : Int) == (i : Int)) = true := by simp; omega
    have hmp := meth_ptr (v := .pointer (some ⟨W, 17, none⟩)) (w := w1) Yba.mPop
    have P := pop_call h s (n := n) (by rw [hin]; exact hA) hn
    subst hin
    go_wp2_with fail
    refine P.mono ?_
    rintro e w2 ⟨⟨v, rfl⟩, D2, s2, h2, o2⟩
    go_wp2_with fail
    go_ret
    exact ⟨⟨_, rfl⟩, D2, qs.take n, s2, h2, o2, mem_take hA hn (fun p hp => h.inj hp hA), by simp; omega⟩
  · have hne : ((n : Int) == (i : Int)) = false := by simp; omega
    have hms := meth_val (W := W) Yba.mSwap (s.fW.cell 0 17 (by omega) (by omega))
    have S := swap_call h s (i := i) (j := n) hi (by omega) (fun x => hin x.symm)
    obtain ⟨B, hB⟩ : ∃ B, qs[n]? = some B := ⟨_, List.getElem?_eq_getElem (by omega)⟩
    go_wp2_with fail
    refine S.mono ?_
    rintro e w2 ⟨rfl, D2, s2, h2, o2⟩
    clear S hms
    have hl2 := swp_len qs i n
    have sm2 := swp_same hA hB
    have hD := hdown_call h2 s2 (i := i) (n := n) (by omega) (by omega)
    go_wp2_with fail
    refine hD.mono ?_
    rintro e w3 ⟨⟨b, rfl⟩, D3, q3, s3, h3, o3, sm3, hk3⟩
    clear hD
    have hA3 : q3[n]? = some A := by rw [hk3 n (Nat.le_refl _), swp_get hA hB, if_pos rfl]
    have hl3 : q3.length = n + 1 := by rw [sm3.1, hl2, hn]
    have hfin : ∀ {q4 : List (Nat × Nat)} {D4 : Dat}, HI D4 q4 → Same q3 q4 → q4[n]? = some A → (∀ s, s ∈ q4.take n ↔ s ∈ qs ∧ s ≠ A) ∧ (q4.take n).length + 1 = qs.length := fun {q4 D4} h4 sm4 hA4 => by
      have hl4 : q4.length = n + 1 := by rw [sm4.1, hl3]
      refine ⟨fun s => ?_, by simp; omega⟩
      rw [mem_take hA4 hl4 (fun p hp => h4.inj hp hA4), sm4.2, sm3.2, sm2.2]
    cases b
    · have U := hup_call h3 s3 (j := i) (by omega)
      go_wp2_with fail
      refine U.mono ?_
      rintro e w4 ⟨rfl, D4, q4, s4, h4, o4, sm4, hk4⟩
      clear U
      have hA4 : q4[n]? = some A := by rw [hk4 n (by omega)]; exact hA3
      have hmp := meth_ptr (v := .pointer (some ⟨W, 17, none⟩)) (w := w4) Yba.mPop
      have P := pop_call h4 s4 (n := n) hA4 (by rw [sm4.1, hl3])
      go_wp2_with fail
      refine P.mono ?_
      rintro e w5 ⟨⟨v, rfl⟩, D5, s5, h5, o5⟩
      obtain ⟨f1, f2⟩ := hfin h4 sm4 hA4
      go_wp2_with fail
      go_ret
      exact ⟨⟨_, rfl⟩, D5, q4.take n, s5, h5, ((o2.trans (o3.trans o4)).toQ).trans o5, f1, f2⟩
    · have hmp := meth_ptr (v := .pointer (some ⟨W, 17, none⟩)) (w := w3) Yba.mPop
      have P := pop_call h3 s3 (n := n) hA3 hl3
      go_wp2_with fail
      refine P.mono ?_
      rintro e w5 ⟨⟨v, rfl⟩, D5, s5, h5, o5⟩
      obtain ⟨f1, f2⟩ := hfin h3 (Same.refl _) hA3
      go_wp2_with fail
      go_ret
      exact ⟨⟨_, rfl⟩, D5, q3.take n, s5, h5, ((o2.trans o3).toQ).trans o5, f1, f2⟩
end Go.Proofs.Ybulkckyc
