import Derived.Test.YbulkckssLcp
import Derived.Test.YbulkckssAppend
import Derived.Laws.IdiomStrings
namespace Go.Proofs.Ybulkckss
open Go.RowKit

def mp (x : UInt8) : UInt8 := 97 + x % 3
theorem mp_nat (x : UInt8) : (mp x).toNat = 97 + x.toNat % 3 := by
  unfold mp
  rw [UInt8.toNat_add, UInt8.toNat_mod]
  have : x.toNat % 3 < 3 := Nat.mod_lt _ (by omega)
  show (97 + x.toNat % 3) % 256 = _
  omega
def mpS (r : ByteArray) : ByteArray := ⟨((bl r).map mp).toArray⟩
theorem mpS_size (r : ByteArray) : (mpS r).size = r.size := by
  show ((bl r).map mp).toArray.size = _
  simp
theorem Yba.info5 : (Yba.prog.info? 5).map (fun i => (i.zero, i.size, i.bytes)) = some (some (.int .u8 0), 1, 1) := by kernel_rfl
theorem Yba.info9 : (Yba.prog.info? 9).map (fun i => (i.zero, i.size, i.bytes)) = some (some (.string ⟨#[]⟩), 1, 16) := by kernel_rfl

theorem add_plain' (b off i : Nat) : (⟨b, off, none⟩ : Addr).add i = ⟨b, off + i, none⟩ := by unfold Addr.add; split <;> simp_all
theorem bytes_inj2 {a b : ByteArray} (h : a.data.toList = b.data.toList) : a = b := by
  cases a; cases b
  simp only [ByteArray.mk.injEq]
  exact Array.toList_inj.1 h
/-- a row of bytes -/
def Row8 (B n : Nat) (f : Nat → Nat) (w : World) : Prop := tyOf w B = some 5 ∧ ∀ k, k < n → w.cell? ⟨B, k, none⟩ = some (.int .u8 (f k))
theorem Row8.set {B n : Nat} {f : Nat → Nat} {w : World} (h : Row8 B n f w) (i v : Nat) : Row8 B n (fun k => if k = i then v else f k) (w.setCell ⟨B, i, none⟩ (.int .u8 v)) := by
  refine ⟨(set_ty h.1).trans h.1, fun k hk => ?_⟩
  rw [set_cell (h.2 k hk)]
  show _ = some (Value.int .u8 (if k = i then v else f k : Nat))
  by_cases e : k = i
  · rw [if_pos (by rw [e]), if_pos e]
  · rw [if_neg (fun x => by simp only [Addr.mk.injEq, true_and, and_true] at x; exact e x.symm), if_neg e]

theorem new_cells1 (w2 : World) (a : Value) (t : TypeId) (j : Nat) (x : Value) (hj : ([a] : List Value)[j]? = some x) :
    (w2.alloc (.cells #[a] t)).cell? ((⟨w2.heap.size, 0, none⟩ : Addr).add j) = some x := by
  have e2 : (w2.alloc (.cells #[a] t)).heap[w2.heap.size]? = some (.cells #[a] t) := (MapKept.heap_alloc w2 _).1
  rw [add_plain', Nat.zero_add]
  simp only [World.cell?, e2]
  simpa using hj
/-- the texts that the law makes -/
structure Txt (m : Nat) (tb : Nat → ByteArray) : Prop where
  sz : ∀ j, j < m → 1 ≤ (tb j).size ∧ (tb j).size ≤ 256
  abc : ∀ j x, j < m → x ∈ bl (tb j) → x = 97 ∨ x = 98 ∨ x = 99
  inj : ∀ i j, i < m → j < m → tb i = tb j → i = j
def strs (m : Nat) (tb : Nat → ByteArray) : List Value := (List.range m).map (fun j => .string (tb j))

set_option maxHeartbeats 4000000 in
set_option maxRecDepth 100000 in
theorem build_call (a0 : Option Addr) (rb roff n0 cap0 : Nat) (rs : Nat → ByteArray) (w : World) (hn : n0 ≤ 256) (h0 : Hid (n0 = 0 ∨ a0 = some ⟨rb, roff, none⟩)) (hrb : 0 < n0 → rb < w.heap.size)
    (hc : ∀ i, i < n0 → w.cell? ⟨rb, roff + i, none⟩ = some (.string (rs i))) (hz : ∀ i, i < n0 → (rs i).size ≤ 256) :
    Calls Yba.prog 8 #[.slice a0 n0 cap0] w fun e w' => ∃ (m : Nat) (tb : Nat → ByteArray) (v : Value), e = .returned v ∧ m ≤ 256 ∧ Txt m tb ∧ w'.ownsRow w.heap.size 9 1 v m (strs m tb) ∧ Below w.heap.size w w' := by
  have hnI : (n0 : Int) ≤ 256 := by omega
  obtain ⟨i5, x0, x1, x2, x3⟩ := info_parts Yba.info5
  obtain ⟨i9, y0, y1, y2, y3⟩ := info_parts Yba.info9
  have HC : Aside _ := hc
  have HZ : Aside _ := hz
  clear hc hz
  go_enter Yba.func8, Yba.ntmps8
  go_wp2_with fail
  go_loopw [3, 5, 6, 7, 8, 9, 11, 14] (fun v _ _ _ _ _ _ x wr => ∃ (i m : Nat) (tb : Nat → ByteArray), i ≤ n0 ∧ m ≤ i ∧ x = .int .i64 i ∧ Txt m tb ∧ wr.ownsRow w.heap.size 9 1 v m (strs m tb) ∧ Below w.heap.size w wr) (fun _ _ _ _ _ _ _ x _ => 256 - (intOf x).toNat)
  case atStart => exact ⟨0, 0, fun _ => ⟨#[]⟩, by omega, by omega, rfl, ⟨fun j h => by omega, fun j x h => by omega, fun i j h => by omega⟩, World.ownsRow_nil _ _ _ _, Below.refl _ _⟩
  case round =>
    obtain ⟨i, m, tb, hi, hm, rfl, ht, ho, hb⟩ := hrel
    obtain ⟨v, hv⟩ : ∃ v, v = u3 := ⟨_, rfl⟩
    subst hv
    by_cases hlt : i < n0
    · obtain rfl : a0 = some ⟨rb, roff, none⟩ := h0.out.resolve_left (by omega)
      have hI : (i : Int) < (n0 : Int) := by omega
      have hI0 : (0 : Int) ≤ (i : Int) := by omega
      have cr : wr.cell? ⟨rb, roff + i, none⟩ = some (.string (rs i)) := (hb.cell (hrb (by omega))).trans (HC.out i hlt)
      have hzr := HZ.out i hlt
      generalize rs i = r at cr hzr
      have hrI : (r.size : Int) ≤ 256 := by omega
      by_cases hr0 : r.size = 0
      · have hr0b : (((r.size : Nat) : Int) == 0) = true := by simp [hr0]
        clear hr0
        go_wp2_with fail
        go_roundw
        case rel => exact ⟨i + 1, m, tb, by omega, by omega, by go_num, ht, ho, hb⟩
        case measure => simp [intOf]; omega
      · have hr0b : (((r.size : Nat) : Int) == 0) = false := by simp [hr0]
        go_wp2_with (at_make; refine wpList_make_full wr rfl (.tmp 22) (.tmp 22) 38 rfl 0 5 i5 (.int .u8 0) 1 Yba.underlying38 x0 x1 x2 .i64 .i64 r.size r.size r.size rfl rfl rfl rfl ?b2 ?b3 ?b4 ?_)
        case b2 => omega
        case b3 => unfold maxLen; omega
        intro w2 ho2 hg2
        rw [toList_madeCells_one] at ho2
        have r8 : Row8 wr.heap.size r.size (fun _ => 0) w2 := ⟨own_ty ho2 _ rfl, fun k hk => (ho2.cellAt k (by omega)).trans (by rw [List.getElem?_replicate, if_pos hk]; rfl)⟩
        have k2 : Kept (fun _ => False) wr w2 := kept_grown hg2
        have hBB : w.heap.size ≤ wr.heap.size := hb.size
        have ho3 := k2.owns ho (fun _ _ x => x)
        have hne : ∀ g, v.ownBlock = some g → g ≠ wr.heap.size := fun g hg e => by have := (ho.lt g hg).2; omega
        have hb2 : Below w.heap.size w w2 := k2.below hb hBB (fun _ x => x.elim)
        clear ho2 hg2 k2
        generalize wr.heap.size = BB at *
        have HR0 : Hid (¬ r.size = 0) := hr0
        clear hr0 hr0b cr
        go_wp2_with fail
        go_loopw [7] (fun x w3 => ∃ k : Nat, k ≤ r.size ∧ x = .int .i64 k ∧ Row8 BB r.size (fun j => if j < k then ((bl (mpS r))[j]?.getD 0).toNat else 0) w3 ∧ Kept (fun g => g = BB) w2 w3) (fun x _ => 256 - (intOf x).toNat)
        case atStart => exact ⟨0, by omega, rfl, r8, Kept.refl _ _⟩
        case round =>
          clear r8
          obtain ⟨k, hk, rfl, r8, kk⟩ := hrel
          by_cases hkl : k < r.size
          · have i1 : (k : Int) < (r.size : Int) := by omega
            have i0 : (0 : Int) ≤ (k : Int) := by omega
            have cB := r8.2 k hkl
            have fB := tyOf_frozen r8.1 k
            have hx : r[k].toNat < 256 := r[k].toNat_lt
            have hx1 : ((r[k].toNat : Nat) : Int) < 256 := by omega
            have hx2 : (0 : Int) ≤ ((r[k].toNat : Nat) : Int) := by omega
            have gk : (bl (mpS r))[k]?.getD 0 = mp r[k] := by
              show (((bl r).map mp).toArray.toList)[k]?.getD 0 = _
              rw [List.getElem?_map, List.getElem?_eq_getElem (by simpa using hkl)]
              rfl
            have st : Row8 BB r.size (fun j => if j < k + 1 then ((bl (mpS r))[j]?.getD 0).toNat else 0) (wr.setCell ⟨BB, k, none⟩ (.int .u8 (97 + ((r[k].toNat : Nat) : Int) % 3))) := by
              have h1 := r8.set k (97 + r[k].toNat % 3)
              rw [show ((97 + r[k].toNat % 3 : Nat) : Int) = 97 + ((r[k].toNat : Nat) : Int) % 3 from by omega] at h1
              refine ⟨h1.1, fun j hj => (h1.2 j hj).trans ?_⟩
              show some (Value.int .u8 ((if j = k then 97 + r[k].toNat % 3 else if j < k then ((bl (mpS r))[j]?.getD 0).toNat else 0 : Nat) : Int)) = some (Value.int .u8 ((if j < k + 1 then ((bl (mpS r))[j]?.getD 0).toNat else 0 : Nat) : Int))
              by_cases e : j = k
              · rw [if_pos e, if_pos (by omega), e, gk, mp_nat]
              · rw [if_neg e]
                by_cases e2 : j < k
                · rw [if_pos e2, if_pos (by omega)]
                · rw [if_neg e2, if_neg (by omega)]
            have k3 : Kept (fun g => g = BB) w2 (wr.setCell ⟨BB, k, none⟩ (.int .u8 (97 + ((r[k].toNat : Nat) : Int) % 3))) := kk.setCell rfl _
            clear gk
            go_wp2_with fail
            go_roundw
            case rel => exact ⟨k + 1, by omega, by go_num, st, k3⟩
            case measure => simp [intOf]; omega
          · have e : k = r.size := by omega
            subst e
            have hlen : (bl (mpS r)).length = r.size := by
              show (((bl r).map mp).toArray.toList).length = _
              simp
            have hcv : (convert 38 9 (.slice (some ⟨BB, 0, none⟩) r.size r.size)).run Yba.prog wr = .ok (.string (mpS r)) wr := by
              have h1 := run_convert_bytes_back (P := Yba.prog) wr 38 9 5 ⟨BB, 0, none⟩ r.size (bl (mpS r)) Yba.underlying38 Yba.underlying5 Yba.underlying9 (fun j hj => by
                rw [add_plain', Nat.zero_add, r8.2 j (by omega)]
                simp only [if_pos (show j < r.size by omega)]
                rw [List.getElem?_eq_getElem hj]; rfl)
              rw [hlen] at h1
              exact h1
            have ho4 := kk.owns ho3 (fun g hg => hne g hg)
            have hb3 : Below w.heap.size w wr := kk.below hb2 hb2.size (fun g hg => by omega)
            obtain ⟨ad, cp, rfl⟩ : ∃ ad cp, v = .slice ad m cp := by
              rcases ho4.2 with ⟨h1, h2⟩ | ⟨g, cap, cur, h1, _⟩
              · exact ⟨none, 0, by rw [h1, h2]⟩
              · exact ⟨_, cap, h1⟩
            have hmI : (m : Int) ≤ 256 := by omega
            obtain ⟨wz, hwz⟩ : ∃ wz, wz = wr := ⟨_, rfl⟩
            subst hwz
            clear r8 kk ho3 hb2 ho hb hlen
            go_wp2_with fail
            go_loopw [9, 11, 42] (fun d _ x w4 => ∃ k : Nat, k ≤ m ∧ x = .int .i64 k ∧ d = .bool false ∧ w4 = wz ∧ ∀ j, j < k → tb j ≠ mpS r) (fun _ _ x _ => 256 - (intOf x).toNat)
            case atStart => exact ⟨0, by omega, rfl, rfl, rfl, fun j hj => by omega⟩
            case round =>
              obtain ⟨k, hk, rfl, rfl, hw, hno⟩ := hrel
              subst hw
              by_cases hkm : k < m
              · obtain ⟨g, cp2, e1, _, _, _, _, hcells⟩ := row_at ho4 (by omega)
                simp only [Value.slice.injEq] at e1
                obtain ⟨rfl, _, rfl⟩ := e1
                have ck : wr.cell? ⟨g, k, none⟩ = some (.string (tb k)) := by
                  rw [hcells k hkm]
                  unfold strs
                  rw [List.getElem?_map, List.getElem?_range hkm]; rfl
                have i1 : (k : Int) < (m : Int) := by omega
                have i0 : (0 : Int) ≤ (k : Int) := by omega
                clear hcells
                by_cases heq : tb k = mpS r
                · have hq : ((tb k).toList == (mpS r).toList) = true := by rw [heq]; simp
                  clear heq hno
                  generalize mpS r = t at *
                  go_wp2_with fail
                  go_roundw
                  case rel => exact ⟨i + 1, m, tb, by omega, by omega, by go_num, ht, ho4, hb3⟩
                  case measure => simp [intOf]; omega
                · have hq : ((tb k).toList == (mpS r).toList) = false := by
                    rw [ByteArray.toList_eq, ByteArray.toList_eq]
                    simp only [beq_eq_false_iff_ne, ne_eq]
                    exact fun e => heq (bytes_inj2 e)
                  have hno2 : ∀ j, j < k + 1 → tb j ≠ mpS r := fun j hj => by
                    by_cases e : j = k
                    · rw [e]; exact heq
                    · exact hno j (by omega)
                  have HNO : Aside _ := hno2
                  clear heq hno hno2
                  generalize mpS r = t at *
                  go_wp2_with fail
                  go_roundw
                  case rel => exact ⟨k + 1, by omega, by go_num, rfl, by simp, HNO.out⟩
                  case measure => simp [intOf]; omega
              · have e : k = m := by omega
                subst e
                have hsz : 1 ≤ (mpS r).size ∧ (mpS r).size ≤ 256 := by rw [mpS_size]; have := HR0.out; omega
                have habc : ∀ x, x ∈ bl (mpS r) → x = 97 ∨ x = 98 ∨ x = 99 := fun x hx => by
                  have hx2 : x ∈ (bl r).map mp := hx
                  obtain ⟨y, _, rfl⟩ := List.mem_map.1 hx2
                  have h1 := mp_nat y
                  have h2 : y.toNat % 3 < 3 := Nat.mod_lt _ (by omega)
                  rcases (show y.toNat % 3 = 0 ∨ y.toNat % 3 = 1 ∨ y.toNat % 3 = 2 by omega) with h3 | h3 | h3
                  · exact .inl (UInt8.toNat_inj.1 (by rw [h1, h3]; rfl))
                  · exact .inr (.inl (UInt8.toNat_inj.1 (by rw [h1, h3]; rfl)))
                  · exact .inr (.inr (UInt8.toNat_inj.1 (by rw [h1, h3]; rfl)))
                have HNO : Aside _ := hno
                have HSZ : Aside _ := hsz
                have HABC : Aside _ := habc
                clear hno hsz habc hcv
                generalize mpS r = t at *
                go_wp2_with (at_builtin; refine wpList_append2 rfl (.tmp 52) (.tmp 54) 28 rfl w.heap.size 9 i9 (.string ⟨#[]⟩) 1 16 Yba.underlying28 y0 y1 y2 y3 rfl (by decide) _ k (strs k tb) rfl (ho4.alloc _) ⟨wr.heap.size, 0, none⟩ 1 1 [.string t] rfl rfl ?c1 ?c2 ?c3 ?c4 ?c5 (by decide) ?_)
                case c1 => exact fun j x hj => new_cells1 wr (.string t) 9 j x hj
                case c2 =>
                  intro x hx
                  simp only [List.mem_cons, List.not_mem_nil, or_false] at hx
                  subst hx; rfl
                case c3 => unfold maxLen; omega
                case c4 => omega
                case c5 => have := hb3.size; simp; omega
                intro g' cap' wa ho' hg' _
                have hb4 : Below w.heap.size w wa := by
                  have h1 : Below w.heap.size w (wr.alloc (.cells #[.string t] 9)) := hb3.alloc hb3.size _
                  exact h1.trans ⟨hg'.os, hg'.tape, hg'.output, hg'.size, fun j hj => hg'.block j (by have := hb3.size; simp; omega) (fun e => by have := (ho4.lt j e.symm).1; omega)⟩
                have ht2 : Txt (k + 1) (fun j => if j = k then t else tb j) := by
                  refine ⟨fun j hj => ?_, fun j x hj hx => ?_, fun a b ha hb e => ?_⟩
                  · by_cases c : j = k
                    · simp only [if_pos c]; exact HSZ.out
                    · simp only [if_neg c]; exact ht.sz j (by omega)
                  · by_cases c : j = k
                    · simp only [if_pos c] at hx; exact HABC.out x hx
                    · simp only [if_neg c] at hx; exact ht.abc j x (by omega) hx
                  · by_cases c : a = k <;> by_cases c' : b = k
                    · omega
                    · simp only [if_pos c, if_neg c'] at e; exact absurd e.symm (HNO.out b (by omega))
                    · simp only [if_neg c, if_pos c'] at e; exact absurd e (HNO.out a (by omega))
                    · simp only [if_neg c, if_neg c'] at e; exact ht.inj a b (by omega) (by omega) e
                have es : strs k tb ++ [Value.string t] = strs (k + 1) (fun j => if j = k then t else tb j) := by
                  unfold strs
                  rw [List.range_succ, List.map_append]
                  congr 1
                  · apply List.map_congr_left
                    intro j hj
                    have : j < k := List.mem_range.1 hj
                    simp only [if_neg (show ¬ j = k by omega)]
                  · simp
                rw [es] at ho'
                clear ho4 hb3 hg' ht es
                go_wp2_with fail
                go_roundw
                case rel => exact ⟨i + 1, k + 1, _, by omega, by omega, by go_num, ht2, ho', hb4⟩
                case measure => simp [intOf]; omega
    · have e : i = n0 := by omega
      subst e
      go_wp2_with fail
      go_ret
      exact ⟨m, tb, _, rfl, by omega, ht, ho, hb⟩
end Go.Proofs.Ybulkckss
