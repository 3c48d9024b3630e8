import Derived.Test.YbulkckycCatch
import Derived.Test.YbulkckycRing
namespace Go.Proofs.Ybulkckyc
open Go.RowKit
variable {w0 wx w : World} {W C G : Nat} {D : Dat}

/-- the place of a tick -/
theorem slot_call (s : St w0 wx W C G D w) {n cap : Nat} (hn : n < 4294967296) :
    Calls Yba.prog 34 #[.slice (some ⟨G, 0, none⟩) 15 cap, .int .i64 0, .int .i64 n] w fun e w' => ∃ k m : Nat, k ≤ 7 ∧ m < 20 ∧ e = .returned (.tuple #[.int .i64 k, .int .i64 m]) ∧ St w0 wx W C G D w' := by
  by_cases h0 : n = 0
  · subst h0
    refine (slotFor_zero G cap w).mono ?_
    rintro e w' ⟨rfl, hb⟩
    exact ⟨0, 0, by omega, by omega, rfl, s.new hb⟩
  · refine (slotFor_pos G cap n (by omega) hn w s.hG).mono ?_
    rintro e w' ⟨k, ⟨hk, hm⟩, rfl, hb⟩
    exact ⟨k, n / 20 ^ k, hk, hm, rfl, s.new hb⟩
theorem ceil_call (s : St w0 wx W C G D w) {n : Nat} (hn : n < 4294967296) :
    Calls Yba.prog 35 #[.int .i64 ((n : Int) * 1000000), .agg #[.int .i64 1000000, .int .u64 9671406556917033398, .int .u64 19]] w fun e w' => e = .returned (.int .i64 n) ∧ St w0 wx W C G D w' := by
  refine (ceil_walk n hn w).mono ?_
  rintro e w' ⟨rfl, hb⟩
  exact ⟨rfl, s.new hb⟩
theorem rem_call (s : St w0 wx W C G D w) {n : Nat} (hn : n < 20) :
    Calls Yba.prog 37 #[.agg #[.int .i64 20, .int .u64 14757395258967641293, .int .u64 4], .int .i64 n] w fun e w' => e = .returned (.int .i64 n) ∧ St w0 wx W C G D w' := by
  refine (rem_walk n hn w).mono ?_
  rintro e w' ⟨rfl, hb⟩
  exact ⟨rfl, s.new hb⟩

/-- levels have joined -/
structure LvRes (D D' : Dat) : Prop where
  only : D' = { D with wc := D'.wc, nl := D'.nl, rb := D'.rb, rc := D'.rc, lv := D'.lv }
  le : D.nl ≤ D'.nl
  rb : ∀ k, k < D.nl → D'.rb k = D.rb k
  rc : ∀ k o, k < D.nl → D'.rc k o = D.rc k o
  new : ∀ k o, D.nl ≤ k → k < D'.nl → o < 80 → D'.rc k o = ringC 20 o
  wc : ∀ o, o ≠ 16 → D'.wc 0 o = D.wc 0 o
  lv : D'.lv = (List.range D'.nl).map D'.ringV
theorem LvRes.refl (h : D.lv = (List.range D.nl).map D.ringV) : LvRes D D := ⟨rfl, Nat.le_refl _, fun _ _ => rfl, fun _ _ _ => rfl, fun _ _ h1 h2 => by omega, fun _ _ => rfl, h⟩

/-- one level more -/
def lvD (D : Dat) (B : Nat) (v : Value) : Dat := { D with nl := D.nl + 1, rb := fun k => if k = D.nl then B else D.rb k, rc := fun k o => if k = D.nl then ringC 20 o else D.rc k o, lv := D.lv ++ [.slice (some ⟨B, 0, none⟩) 20 20], wc := up2 D.wc 0 16 v }
theorem LvRes.step {D1 : Dat} (h : LvRes D D1) (B : Nat) (v : Value) : LvRes D (lvD D1 B v) := by
  refine ⟨?_, ?_, ?_, ?_, ?_, ?_, ?_⟩
  · unfold lvD; rw [h.only]
  · exact Nat.le_trans h.le (Nat.le_succ _)
  · intro k hk
    have := h.le
    show (if k = D1.nl then B else D1.rb k) = _
    rw [if_neg (by omega)]; exact h.rb k hk
  · intro k o hk
    have := h.le
    show (if k = D1.nl then _ else D1.rc k o) = _
    rw [if_neg (by omega)]; exact h.rc k o hk
  · intro k o hk hk2 ho
    show (if k = D1.nl then _ else D1.rc k o) = _
    by_cases e : k = D1.nl
    · rw [if_pos e]
    · rw [if_neg e]
      have : k < D1.nl + 1 := hk2
      exact h.new k o hk (by omega) ho
  · intro o ho
    exact (up2_ne (fun x => ho x.2)).trans (h.wc o ho)
  · show D1.lv ++ [_] = (List.range (D1.nl + 1)).map _
    rw [List.range_succ, List.map_append, h.lv]
    congr 1
    · apply List.map_congr_left
      intro c hc
      have : c < D1.nl := List.mem_range.1 hc
      show Value.slice _ _ _ = Value.slice (some ⟨if c = D1.nl then B else D1.rb c, 0, none⟩) 20 20
      rw [if_neg (by omega)]
    · show _ = [Value.slice (some ⟨if D1.nl = D1.nl then B else D1.rb D1.nl, 0, none⟩) 20 20]
      rw [if_pos rfl]
/-- the levels' row -/
theorem lv_val (s : St w0 wx W C G D w) (h : D.lv = (List.range D.nl).map D.ringV) : ∃ ad cap, D.wc 0 16 = .slice ad D.nl cap := by
  have hl : D.lv.length = D.nl := by rw [h]; simp
  rcases s.oL.2 with ⟨h0, h1⟩ | ⟨g, cap, cur, h0, _⟩
  · exact ⟨none, 0, by rw [h0, ← hl, h1]⟩
  · exact ⟨_, cap, by rw [h0, hl]⟩
theorem lv_row (s : St w0 wx W C G D w) (h : D.lv = (List.range D.nl).map D.ringV) {k : Nat} (hk : k < D.nl) : ∃ g cap, D.wc 0 16 = .slice (some ⟨g, 0, none⟩) D.nl cap ∧ w.cell? ⟨g, k, none⟩ = some (D.ringV k) := by
  have hl : D.lv.length = D.nl := by rw [h]; simp
  obtain ⟨g, cap, h1, h2, _, h4, _, h6⟩ := row_at s.oL (by rw [hl]; omega)
  rw [hl] at h1 h6
  refine ⟨g, cap, h1, ?_⟩
  rw [h6 k hk, h, List.getElem?_map, List.getElem?_range hk]
  rfl
def lvLen (W : Nat) (w : World) : Nat := match w.cell? ⟨W, 16, none⟩ with | some (.slice _ n _) => n | _ => 0
theorem lvLen_eq (s : St w0 wx W C G D w) (h : D.lv = (List.range D.nl).map D.ringV) : lvLen W w = D.nl := by
  obtain ⟨ad, cap, hv⟩ := lv_val s h
  unfold lvLen
  rw [(s.fW.cell 0 16 (by omega) (by omega)).trans (congrArg some hv)]

theorem HI.levels {D' : Dat} {qs : List (Nat × Nat)} (h : HI D qs) (r : LvRes D D') : HI D' qs := by
  have hq : D'.qv = D.qv := by rw [r.only]
  refine ⟨?_, fun s hs => ⟨Nat.lt_of_lt_of_le (h.bd s hs).1 r.le, (h.bd s hs).2⟩, fun p s hp => ?_, fun k j hk hj hn => ?_, fun k j hk hj => ?_, h.ln⟩
  · rw [hq, h.qv]
    apply List.map_congr_left
    intro s hs
    unfold Dat.slotP
    rw [r.rb _ (h.bd s hs).1]
  · rw [r.rc _ _ (h.bd s (List.mem_of_getElem? hp)).1]; exact h.ix p s hp
  · by_cases e : k < D.nl
    · rw [r.rc _ _ e]; exact h.ox k j e hj hn
    · rw [r.new k _ (by omega) hk (by omega)]
      unfold ringC
      rw [if_pos (by omega), if_pos (by omega)]
  · by_cases e : k < D.nl
    · obtain ⟨z, hz⟩ := h.st k j e hj
      exact ⟨z, by rw [r.rc _ _ e]; exact hz⟩
    · refine ⟨0, ?_⟩
      rw [r.new k _ (by omega) hk (by omega)]
      unfold ringC
      rw [if_neg (by omega), if_pos (by omega)]
theorem Yba.info121 : (Yba.prog.info? 121).map (fun i => (i.zero, i.size, i.bytes)) = some (some (.agg #[.slice none 0 0]), 1, 24) := by kernel_rfl
theorem lv_step {w2 wa : World} {D1 : Dat} {B : Nat} {v : Value} (s : St w0 wx W C G D1 w2) (hr : RingAt B 20 w2) (hB : w0.heap.size ≤ B) (hnew : ∀ k, k < D1.nl → D1.rb k ≠ B) (k : Kept (fun j => (D1.wc 0 16).ownBlock = some j) w2 wa)
    (hl : D1.lv.length = D1.nl) (ho : wa.ownsRow w0.heap.size 121 1 v (D1.nl + 1) (D1.lv ++ [.slice (some ⟨B, 0, none⟩) 20 20])) : St w0 wx W C G (lvD D1 B v) (wa.setCell ⟨W, 16, none⟩ v) := by
  have s1 := (s.addR hr.1 hnew hr.2 hB).growL k v (D1.lv ++ [Value.slice (some ⟨B, 0, none⟩) 20 20]) (by rw [List.length_append, hl]; exact ho)
  exact s1
end Go.Proofs.Ybulkckyc
