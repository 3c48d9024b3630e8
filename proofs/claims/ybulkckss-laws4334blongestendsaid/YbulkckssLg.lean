import Derived.Test.YbulkckssD1
import Derived.Deep.QuietTactic
namespace Go.Proofs.Ybulkckss
open Go.RowKit

/-- the k last bytes of vb begin text j -/
def Fits (vb : List UInt8) (n : Nat) (tx : Nat → ByteArray) (j k : Nat) : Prop := k ≤ (tx j).size ∧ (tx j).data.toList.take k = vb.drop (n - k)

theorem ext_take (a : ByteArray) (k : Nat) : (a.extract 0 k).toList = a.data.toList.take k := by
  rw [ByteArray.toList_eq]
  simp [ByteArray.data_extract, Array.toList_extract]
theorem Below.drewN_o (B : Nat) (w : World) (n : Nat) : Below B w (w.drewN n) := ⟨rfl, rfl, rfl, Nat.le_refl _, fun _ _ => rfl⟩
set_option maxHeartbeats 4000000 in
set_option maxRecDepth 100000 in
/-- the longest end that begins a text -/
theorem longest_call {wa ad : Option Addr} {WB n wc XB m cap : Nat} {tx : Nat → ByteArray} {w : World} (vb : List UInt8) (hn : Hid (vb.length = n)) (hv : ∀ (j : Nat) x, vb[j]? = some x → w.cell? ⟨WB, j, none⟩ = some (.int .u8 (x.toNat : Nat))) (hwa : 0 < n → wa = some ⟨WB, 0, none⟩ ∧ WB < w.heap.size) (hn6 : n ≤ 256) (hcap : n ≤ wc) (ht : TXd ad XB m tx w) :
    Calls Yba.prog 12 #[.slice wa n wc, .slice ad m cap] w fun e w' => ∃ (k : Nat) (ua : Option Addr) (uc : Nat), e = .returned (.slice ua k uc) ∧ k ≤ n ∧ (0 < k → ua = some ⟨WB, n - k, none⟩) ∧ (k = 0 ∨ ∃ j, j < m ∧ Fits vb n tx j k) ∧ (∀ k', k < k' → k' ≤ n → ∀ j, j < m → ¬ Fits vb n tx j k') ∧ Below w.heap.size w w' := by
  have hnI : (n : Int) ≤ 256 := by omega
  have hm6 := ht.n6
  have hmI : (m : Int) ≤ 256 := by omega
  have HV : Aside _ := hv
  have HWA : Aside _ := hwa
  clear hv hwa
  go_enter Yba.func12, Yba.ntmps12
  go_wp2_with fail
  go_loopw [5, 6, 8] (fun x _ _ wr => ∃ k : Nat, k ≤ n ∧ x = .int .i64 k ∧ Below w.heap.size w wr ∧ ∀ k', k < k' → k' ≤ n → ∀ j, j < m → ¬ Fits vb n tx j k') (fun x _ _ _ => (intOf x).toNat)
  case atStart => exact ⟨n, Nat.le_refl _, rfl, Below.refl _ _, fun k' h1 h2 => by omega⟩
  case round =>
    obtain ⟨k, hk, rfl, hbel, hno⟩ := hrel
    have HNO : Aside _ := hno
    clear hno
    by_cases hk1 : 1 ≤ k
    · obtain ⟨rfl, hWl⟩ := HWA.out (by omega)
      have kI : (1 : Int) ≤ (k : Int) := by omega
      obtain ⟨o, ho⟩ : ∃ o, n - k = o := ⟨_, rfl⟩
      obtain ⟨R, hR⟩ : ∃ R, wc - o = R := ⟨_, rfl⟩
      have w1 : IntKind.i64.wrap ((n : Int) - (k : Int)) = (o : Int) := by rw [IntKind.wrap_i64]; omega
      have w2 : (n : Int) - (k : Int) = (o : Int) := by omega
      have o1 : (o : Int) ≤ (n : Int) := by omega
      have o0 : (0 : Int) ≤ (o : Int) := by omega
      have o2 : ¬ wc = o := by omega
      have o3 : n - o = k := by omega
      have hkI6 : (k : Int) ≤ 256 := by omega
      have HO : Hid (n - k = o) := ho
      clear ho
      go_wp2_with fail
      go_loopw [8, 23] (fun _ x wr => ∃ j : Nat, j ≤ m ∧ x = .int .i64 j ∧ Below w.heap.size w wr ∧ ∀ j', j' < j → ¬ Fits vb n tx j' k) (fun _ x _ => 256 - (intOf x).toNat)
      case atStart => exact ⟨0, by omega, rfl, hbel, fun j' h => by omega⟩
      case round =>
        clear hbel
        obtain ⟨j, hj, rfl, hbel, hno⟩ := hrel
        have HNJ : Aside _ := hno
        clear hno
        by_cases hltj : j < m
        · have hjI : (j : Int) < (m : Int) := by omega
          have hj0 : (0 : Int) ≤ (j : Int) := by omega
          obtain ⟨rfl, tX⟩ := ht.ad (by omega)
          have ct : wr.cell? ⟨XB, j, none⟩ = some (.string (tx j)) := (hbel.cell (tyOf_lt tX)).trans (ht.txt j hltj)
          have hTz := ht.sz j hltj
          have hTI : ((tx j).size : Int) ≤ 256 := by omega
          have hlenD : (vb.drop o).length = k := by rw [List.length_drop, hn.out]; omega
          have hcv0 : ∀ w', (∀ p, w'.cell? ⟨WB, p, none⟩ = wr.cell? ⟨WB, p, none⟩) → (convert 38 9 (.slice (some ⟨WB, o, none⟩) k R)).run Yba.prog w' = .ok (.string ⟨(vb.drop o).toArray⟩) w' := fun w' hw' => by
            have h1 := run_convert_bytes_back (P := Yba.prog) w' 38 9 5 ⟨WB, o, none⟩ R (vb.drop o) Yba.underlying38 Yba.underlying5 Yba.underlying9 (fun p hp => by
              rw [show (⟨WB, o, none⟩ : Addr).add p = ⟨WB, o + p, none⟩ from by unfold Addr.add; split <;> simp_all, hw', hbel.cell hWl]
              have hop : o + p < vb.length := by rw [List.length_drop] at hp; omega
              rw [List.getElem_drop]
              exact HV.out (o + p) vb[o + p] (List.getElem?_eq_getElem hop))
            rw [hlenD] at h1
            exact h1
          have hcv : ∀ q, (convert 38 9 (.slice (some ⟨WB, o, none⟩) k R)).run Yba.prog (wr.drewN q) = .ok (.string ⟨(vb.drop o).toArray⟩) (wr.drewN q) := fun q => hcv0 _ (fun _ => rfl)
          obtain ⟨sb, hsb⟩ : ∃ sb : ByteArray, sb = ⟨(vb.drop o).toArray⟩ := ⟨_, rfl⟩
          rw [← hsb] at hcv
          have HSB : Hid (sb = ⟨(vb.drop o).toArray⟩) := hsb
          have HCV0 : Aside _ := hcv0
          clear hsb hcv0 hlenD
          by_cases hkz : k ≤ (tx j).size
          · have hkzI : (k : Int) ≤ ((tx j).size : Int) := by omega
            have hk00 : (0 : Int) ≤ (k : Int) := by omega
            by_cases hfit : (tx j).data.toList.take k = vb.drop o
            · have hq : (((tx j).extract 0 k).toList == sb.toList) = true := by
                rw [ext_take, ByteArray.toList_eq, HSB.out, hfit]
                simp
              have HF : Hid ((tx j).data.toList.take k = vb.drop o) := hfit
              clear hfit
              go_wp2_with fail
              go_quiet (fail)
              have hbq := hbel.trans (Below.drewN_o w.heap.size wr nq)
              clear hcv HCV0
              go_wp2_with fail
              go_ret
              exact ⟨k, _, R, rfl, hk, fun _ => by rw [HO.out], .inr ⟨j, hltj, hkz, by rw [HO.out]; exact HF.out⟩, HNO.out, hbq⟩
            · have hq : (((tx j).extract 0 k).toList == sb.toList) = false := by
                rw [ext_take, ByteArray.toList_eq, HSB.out]
                simp only [beq_eq_false_iff_ne, ne_eq]
                exact hfit
              have hn2 : ∀ j', j' < j + 1 → ¬ Fits vb n tx j' k := fun j' h' => by
                by_cases e : j' = j
                · rw [e]
                  exact fun hf => hfit (by have := hf.2; rwa [HO.out] at this)
                · exact HNJ.out j' (by omega)
              have HN2 : Aside _ := hn2
              clear hfit hn2
              go_wp2_with fail
              go_quiet (fail)
              have hbq := hbel.trans (Below.drewN_o w.heap.size wr nq)
              clear hcv HCV0
              go_wp2_with fail
              go_roundw
              case rel => exact ⟨j + 1, by omega, by go_num, hbq, HN2.out⟩
              case measure => simp [intOf]; omega
          · have hkzI : ((tx j).size : Int) < (k : Int) := by omega
            have hkzF : ((k : Int) ≤ ((tx j).size : Int)) = False := eq_false (by omega)
            have hn2 : ∀ j', j' < j + 1 → ¬ Fits vb n tx j' k := fun j' h' => by
              by_cases e : j' = j
              · rw [e]; exact fun hf => hkz hf.1
              · exact HNJ.out j' (by omega)
            have HN2 : Aside _ := hn2
            clear hn2 hcv
            go_wp2_with fail
            go_quiet (fail)
            have hbq := hbel.trans (Below.drewN_o w.heap.size wr nq)
            clear HCV0
            go_wp2_with fail
            go_roundw
            case rel => exact ⟨j + 1, by omega, by go_num, hbq, HN2.out⟩
            case measure => simp [intOf]; omega
        · have hjI : (m : Int) ≤ (j : Int) := by omega
          obtain ⟨q, hq⟩ : ∃ q, k - 1 = q := ⟨_, rfl⟩
          have w3 : IntKind.i64.wrap ((k : Int) - 1) = (q : Int) := by rw [IntKind.wrap_i64]; omega
          have w4 : (k : Int) - 1 = (q : Int) := by omega
          have hn2 : ∀ k', q < k' → k' ≤ n → ∀ j, j < m → ¬ Fits vb n tx j k' := fun k' h1 h2 j' hj' => by
            by_cases e : k' = k
            · rw [e]; exact HNJ.out j' (by omega)
            · exact HNO.out k' (by omega) h2 j' hj'
          have hqn : q ≤ n := by omega
          have hqk : q < k := by omega
          have HN2 : Aside _ := hn2
          clear hn2 hq
          go_wp2_with fail
          go_roundw
          case rel => exact ⟨q, hqn, rfl, hbel, HN2.out⟩
          case measure => simp [intOf]; omega
    · have hkI : (k : Int) < 1 := by omega
      have hk0 : k = 0 := by omega
      have hn2 : ∀ k', 0 < k' → k' ≤ n → ∀ j, j < m → ¬ Fits vb n tx j k' := fun k' h1 h2 => HNO.out k' (by omega) h2
      have HN2 : Aside _ := hn2
      clear hn2 hk0
      go_wp2_with fail
      go_ret
      exact ⟨0, none, 0, rfl, by omega, fun h => by omega, .inl rfl, HN2.out, hbel⟩
end Go.Proofs.Ybulkckss
