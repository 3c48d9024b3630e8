import Derived.Test.YbulkckycMem
import Derived.Test.YbulkckycAppend
import Derived.Deep.QuietTactic
import Derived.BigQuiet
import Derived.Laws.BitsLemmas
namespace Go.Proofs.Ybulkckyc
open Go.RowKit

theorem low10 (i : Nat) (hi : i < 2147483648) : bits BinOp.and IntKind.i32 (i : Int) 1023 = ((i % 1024 : Nat) : Int) := by
  have h := bits_mask IntKind.i32 31 (by decide) wraps_i32 10 (by omega) (i : Int) (by omega) (by omega)
  have e : ((i % 1024 : Nat) : Int) = (i : Int) % 2 ^ 10 := by simp
  rw [e, ← h]
  rfl

set_option maxHeartbeats 1000000 in
theorem at_walk (W g n cap B i : Nat) (w : World) (c18 : w.cell? ⟨W, 18, none⟩ = some (.slice (some ⟨g, 0, none⟩) n cap)) (hi : i < 2147483648) (hn : i / 1024 < n) (cg : w.cell? ⟨g, i / 1024, none⟩ = some (.pointer (some ⟨B, 0, none⟩))) :
    Calls Yba.prog 26 #[.pointer (some ⟨W, 18, none⟩), .int .i32 i] w fun e w' => e = .returned (.pointer (some ⟨B, i % 1024 * 5, none⟩)) ∧ w' = w := by
  have hb := low10 i hi
  have hm : i % 1024 < 1024 := Nat.mod_lt _ (by omega)
  go_enter Yba.func26, Yba.ntmps26
  go_wp2_with fail
  go_ret
  exact ⟨rfl, rfl⟩

set_option maxHeartbeats 1000000 in
/-- push at the end of an empty list -/
theorem push_empty (W R o E p i : Nat) (hd pv nx : Value) (w : World) (hRE : R ≠ E) (ct : w.cell? ⟨R, o + 3, none⟩ = some (.int .i32 0)) (ch : w.cell? ⟨R, o + 2, none⟩ = some hd) (fR : ∀ q, w.frozen? ⟨R, q, none⟩ = false)
    (c3 : w.cell? ⟨E, p + 3, none⟩ = some pv) (c4 : w.cell? ⟨E, p + 4, none⟩ = some nx) (fE : ∀ q, w.frozen? ⟨E, q, none⟩ = false) :
    Calls Yba.prog 39 #[.pointer (some ⟨R, o + 2, none⟩), .pointer (some ⟨W, 18, none⟩), .int .i32 i, .pointer (some ⟨E, p, none⟩)] w fun e w' => e = .returned (.tuple #[]) ∧
      w' = (((w.setCell ⟨E, p + 3, none⟩ (.int .i32 0)).setCell ⟨E, p + 4, none⟩ (.int .i32 0)).setCell ⟨R, o + 2, none⟩ (.int .i32 i)).setCell ⟨R, o + 3, none⟩ (.int .i32 i) := by
  have f2 := fR (o + 2)
  have f3 := fR (o + 2 + 1)
  have g3 := fE (p + 3)
  have g4 := fE (p + 4)
  go_enter Yba.func39, Yba.ntmps39
  go_wp2_with fail
  go_end0
  exact ⟨rfl, rfl⟩

set_option maxHeartbeats 1000000 in
/-- push at the end of a list whose last is t -/
theorem push_more (W R o E p i t F q g n cap : Nat) (pv nx ox : Value) (w : World) (hRE : R ≠ E) (hRF : R ≠ F) (hWE : W ≠ E) (hgE : g ≠ E) (hq : F ≠ E ∨ (q + 4 ≠ p + 3 ∧ q + 4 ≠ p + 4)) (ht : (t : Int) ≠ 0) (ct : w.cell? ⟨R, o + 3, none⟩ = some (.int .i32 t)) (fR : ∀ q, w.frozen? ⟨R, q, none⟩ = false)
    (c3 : w.cell? ⟨E, p + 3, none⟩ = some pv) (c4 : w.cell? ⟨E, p + 4, none⟩ = some nx) (fE : ∀ q, w.frozen? ⟨E, q, none⟩ = false) (hat : t < 2147483648 ∧ t / 1024 < n) (c18 : w.cell? ⟨W, 18, none⟩ = some (.slice (some ⟨g, 0, none⟩) n cap))
    (cg : w.cell? ⟨g, t / 1024, none⟩ = some (.pointer (some ⟨F, 0, none⟩))) (hqt : t % 1024 * 5 = q) (cF : w.cell? ⟨F, q + 4, none⟩ = some ox) (fF : ∀ q, w.frozen? ⟨F, q, none⟩ = false) :
    Calls Yba.prog 39 #[.pointer (some ⟨R, o + 2, none⟩), .pointer (some ⟨W, 18, none⟩), .int .i32 i, .pointer (some ⟨E, p, none⟩)] w fun e w' => e = .returned (.tuple #[]) ∧
      w' = (((w.setCell ⟨E, p + 3, none⟩ (.int .i32 t)).setCell ⟨E, p + 4, none⟩ (.int .i32 0)).setCell ⟨F, q + 4, none⟩ (.int .i32 i)).setCell ⟨R, o + 3, none⟩ (.int .i32 i) := by
  have f3 := fR (o + 2 + 1)
  have g3 := fE (p + 3)
  have g4 := fE (p + 4)
  have k4 := fF (q + 4)
  have ht2 : ((t : Int) == 0) = false := by simpa using ht
  have HA : ∀ w1 : World, w1.cell? ⟨W, 18, none⟩ = some (.slice (some ⟨g, 0, none⟩) n cap) → w1.cell? ⟨g, t / 1024, none⟩ = some (.pointer (some ⟨F, 0, none⟩)) → Calls Yba.prog 26 #[.pointer (some ⟨W, 18, none⟩), .int .i32 t] w1 fun e w' => e = .returned (.pointer (some ⟨F, q, none⟩)) ∧ w' = w1 := fun w1 h1 h2 => by
    rw [← hqt]; exact at_walk W g n cap F t w1 h1 hat.1 hat.2 h2
  clear hat hqt
  have cF2 : ((w.setCell ⟨E, p + 3, none⟩ (.int .i32 t)).setCell ⟨E, p + 4, none⟩ (.int .i32 0)).cell? ⟨F, q + 4, none⟩ = some ox := by
    rw [set_cell (set_cell cF), if_neg, if_neg]
    · simp only [Addr.mk.injEq]; rcases hq with h | h
      · exact fun x => h x.1.symm
      · intro x; omega
    · simp only [Addr.mk.injEq]; rcases hq with h | h
      · exact fun x => h x.1.symm
      · intro x; omega
  go_enter Yba.func39, Yba.ntmps39
  go_wp2_with fail
  refine (HA _ ?_ ?_).mono ?_
  · rw [set_cell_ne hWE, set_cell_ne hWE]; exact c18
  · rw [set_cell_ne hgE, set_cell_ne hgE]; exact cg
  rintro e w' ⟨rfl, rfl⟩
  go_wp2_with fail
  go_end0
  exact ⟨rfl, rfl⟩

set_option maxHeartbeats 1000000 in
/-- remove of a list's only entry -/
theorem remove_only (W R o E p i : Nat) (hd tl : Value) (w : World) (hRE : R ≠ E) (ct : w.cell? ⟨R, o + 3, none⟩ = some tl) (ch : w.cell? ⟨R, o + 2, none⟩ = some hd) (fR : ∀ q, w.frozen? ⟨R, q, none⟩ = false)
    (c3 : w.cell? ⟨E, p + 3, none⟩ = some (.int .i32 0)) (c4 : w.cell? ⟨E, p + 4, none⟩ = some (.int .i32 0)) (fE : ∀ q, w.frozen? ⟨E, q, none⟩ = false) :
    Calls Yba.prog 27 #[.pointer (some ⟨R, o + 2, none⟩), .pointer (some ⟨W, 18, none⟩), .int .i32 i, .pointer (some ⟨E, p, none⟩)] w fun e w' => e = .returned (.tuple #[]) ∧
      w' = (((w.setCell ⟨R, o + 2, none⟩ (.int .i32 0)).setCell ⟨R, o + 3, none⟩ (.int .i32 0)).setCell ⟨E, p + 3, none⟩ (.int .i32 0)).setCell ⟨E, p + 4, none⟩ (.int .i32 0) := by
  have f2 := fR (o + 2)
  have f3 := fR (o + 2 + 1)
  have g3 := fE (p + 3)
  have g4 := fE (p + 4)
  go_enter Yba.func27, Yba.ntmps27
  go_wp2_with fail
  go_end0
  exact ⟨rfl, rfl⟩

set_option maxHeartbeats 1000000 in
/-- remove of a list's first entry: another behind it -/
theorem remove_first (W R o E p i x F q g n cap : Nat) (hd ox : Value) (w : World) (hRE : R ≠ E) (hRF : R ≠ F) (hWR : W ≠ R) (hgR : g ≠ R) (hq : F ≠ E ∨ q ≠ p) (hx : (x : Int) ≠ 0) (ch : w.cell? ⟨R, o + 2, none⟩ = some hd) (fR : ∀ q, w.frozen? ⟨R, q, none⟩ = false)
    (c3 : w.cell? ⟨E, p + 3, none⟩ = some (.int .i32 0)) (c4 : w.cell? ⟨E, p + 4, none⟩ = some (.int .i32 x)) (fE : ∀ q, w.frozen? ⟨E, q, none⟩ = false) (hat : x < 2147483648 ∧ x / 1024 < n) (c18 : w.cell? ⟨W, 18, none⟩ = some (.slice (some ⟨g, 0, none⟩) n cap))
    (cg : w.cell? ⟨g, x / 1024, none⟩ = some (.pointer (some ⟨F, 0, none⟩))) (hqt : x % 1024 * 5 = q) (cF : w.cell? ⟨F, q + 3, none⟩ = some ox) (fF : ∀ q, w.frozen? ⟨F, q, none⟩ = false) :
    Calls Yba.prog 27 #[.pointer (some ⟨R, o + 2, none⟩), .pointer (some ⟨W, 18, none⟩), .int .i32 i, .pointer (some ⟨E, p, none⟩)] w fun e w' => e = .returned (.tuple #[]) ∧
      w' = (((w.setCell ⟨R, o + 2, none⟩ (.int .i32 x)).setCell ⟨F, q + 3, none⟩ (.int .i32 0)).drew.setCell ⟨E, p + 3, none⟩ (.int .i32 0)).setCell ⟨E, p + 4, none⟩ (.int .i32 0) := by
  have f2 := fR (o + 2)
  have g3 := fE (p + 3)
  have g4 := fE (p + 4)
  have k3 := fF (q + 3)
  have hx2 : ((x : Int) == 0) = false := by simpa using hx
  have HA : ∀ w1 : World, w1.cell? ⟨W, 18, none⟩ = some (.slice (some ⟨g, 0, none⟩) n cap) → w1.cell? ⟨g, x / 1024, none⟩ = some (.pointer (some ⟨F, 0, none⟩)) → Calls Yba.prog 26 #[.pointer (some ⟨W, 18, none⟩), .int .i32 x] w1 fun e w' => e = .returned (.pointer (some ⟨F, q, none⟩)) ∧ w' = w1 := fun w1 h1 h2 => by
    rw [← hqt]; exact at_walk W g n cap F x w1 h1 hat.1 hat.2 h2
  clear hat hqt
  have HB := HA (w.setCell ⟨R, o + 2, none⟩ (.int .i32 x)).drew (by show (w.setCell ⟨R, o + 2, none⟩ (.int .i32 x)).cell? _ = _; rw [set_cell_ne hWR]; exact c18) (by show (w.setCell ⟨R, o + 2, none⟩ (.int .i32 x)).cell? _ = _; rw [set_cell_ne hgR]; exact cg)
  go_enter Yba.func27, Yba.ntmps27
  go_wp2_with fail
  go_region_with (go_at_call 26; refine HB.mono ?_; rintro e w' ⟨rfl, rfl⟩)
  all_goals
    generalize hw2 : ((w.setCell ⟨R, o + 2, none⟩ (.int .i32 x)).setCell ⟨F, q + 3, none⟩ (.int .i32 0)).drew = w2
    obtain ⟨v3, d3⟩ : ∃ v, w2.cell? ⟨E, p + 3, none⟩ = some v := by rw [← hw2]; exact ⟨_, set_cell (set_cell c3)⟩
    obtain ⟨v4, d4⟩ : ∃ v, w2.cell? ⟨E, p + 4, none⟩ = some v := by rw [← hw2]; exact ⟨_, set_cell (set_cell c4)⟩
    have m3 : w2.frozen? ⟨E, p + 3, none⟩ = false := by rw [← hw2]; simp [g3]
    have m4 : w2.frozen? ⟨E, p + 4, none⟩ = false := by rw [← hw2]; simp [g4]
    go_wp2_with fail
    go_end0
    exact ⟨rfl, by rw [hw2]⟩

/-- two entries of one chunk, or of two -/
def Apart5 (F q E p : Nat) : Prop := F ≠ E ∨ (q + 5 ≤ p ∨ p + 5 ≤ q)
theorem Apart5.ne {F q E p a b : Nat} (h : Apart5 F q E p) (ha : a < 5) (hb : b < 5) : (⟨F, q + a, none⟩ : Addr) ≠ ⟨E, p + b, none⟩ := by
  intro x
  simp only [Addr.mk.injEq, and_true] at x
  rcases h with h | h
  · exact h x.1
  · omega

set_option maxHeartbeats 1000000 in
/-- remove of a list's last entry: another ahead of it -/
theorem remove_last (W R o E p i y F q g n cap : Nat) (tl ox : Value) (w : World) (hRE : R ≠ E) (hRF : R ≠ F) (hq : Apart5 F q E p) (hy : (y : Int) ≠ 0) (ct : w.cell? ⟨R, o + 3, none⟩ = some tl) (fR : ∀ q, w.frozen? ⟨R, q, none⟩ = false)
    (c3 : w.cell? ⟨E, p + 3, none⟩ = some (.int .i32 y)) (c4 : w.cell? ⟨E, p + 4, none⟩ = some (.int .i32 0)) (fE : ∀ q, w.frozen? ⟨E, q, none⟩ = false) (hat : y < 2147483648 ∧ y / 1024 < n) (c18 : w.cell? ⟨W, 18, none⟩ = some (.slice (some ⟨g, 0, none⟩) n cap))
    (cg : w.cell? ⟨g, y / 1024, none⟩ = some (.pointer (some ⟨F, 0, none⟩))) (hqt : y % 1024 * 5 = q) (cF : w.cell? ⟨F, q + 4, none⟩ = some ox) (fF : ∀ q, w.frozen? ⟨F, q, none⟩ = false) :
    Calls Yba.prog 27 #[.pointer (some ⟨R, o + 2, none⟩), .pointer (some ⟨W, 18, none⟩), .int .i32 i, .pointer (some ⟨E, p, none⟩)] w fun e w' => e = .returned (.tuple #[]) ∧
      w' = ((((w.setCell ⟨F, q + 4, none⟩ (.int .i32 0)).drew).setCell ⟨R, o + 3, none⟩ (.int .i32 y)).setCell ⟨E, p + 3, none⟩ (.int .i32 0)).setCell ⟨E, p + 4, none⟩ (.int .i32 0) := by
  have f3 := fR (o + 2 + 1)
  have g3 := fE (p + 3)
  have g4 := fE (p + 4)
  have k4 := fF (q + 4)
  have hy2 : ((y : Int) == 0) = false := by simpa using hy
  have HB : Calls Yba.prog 26 #[.pointer (some ⟨W, 18, none⟩), .int .i32 y] w.drew fun e w' => e = .returned (.pointer (some ⟨F, q, none⟩)) ∧ w' = w.drew := by
    rw [← hqt]; exact at_walk W g n cap F y w.drew c18 hat.1 hat.2 cg
  clear hat hqt
  go_enter Yba.func27, Yba.ntmps27
  go_wp2_with fail
  go_cut [0, 1, 2, 3] (fun a b c d wc => a = .pointer (some ⟨R, o + 2, none⟩) ∧ b = .pointer (some ⟨W, 18, none⟩) ∧ c = .int .i32 i ∧ d = .pointer (some ⟨E, p, none⟩) ∧ wc = (w.setCell ⟨F, q + 4, none⟩ (.int .i32 0)).drew)
  case first =>
    go_region_with (go_at_call 26; refine HB.mono ?_; rintro e w' ⟨rfl, rfl⟩)
    all_goals
      go_wp2_with fail
      go_meet
      exact ⟨rfl, rfl, rfl, rfl, rfl⟩
  case rest =>
    obtain ⟨rfl, rfl, rfl, rfl, rfl⟩ := hcut
    have d3 : (w.setCell ⟨F, q + 4, none⟩ (.int .i32 0)).drew.cell? ⟨E, p + 3, none⟩ = some (.int .i32 y) := (World.cell?_setCell_other w _ _ _ (hq.ne (by omega) (by omega))).trans c3
    have d4 : (w.setCell ⟨F, q + 4, none⟩ (.int .i32 0)).drew.cell? ⟨E, p + 4, none⟩ = some (.int .i32 0) := (World.cell?_setCell_other w _ _ _ (hq.ne (by omega) (by omega))).trans c4
    have dt : (w.setCell ⟨F, q + 4, none⟩ (.int .i32 0)).drew.cell? ⟨R, o + 3, none⟩ = some tl := (set_cell_ne hRF).trans ct
    have m3 : (w.setCell ⟨F, q + 4, none⟩ (.int .i32 0)).drew.frozen? ⟨E, p + 3, none⟩ = false := by simp [g3]
    have m4 : (w.setCell ⟨F, q + 4, none⟩ (.int .i32 0)).drew.frozen? ⟨E, p + 4, none⟩ = false := by simp [g4]
    have m5 : (w.setCell ⟨F, q + 4, none⟩ (.int .i32 0)).drew.frozen? ⟨R, o + 2 + 1, none⟩ = false := by simp [f3]
    generalize hw2 : (w.setCell ⟨F, q + 4, none⟩ (.int .i32 0)).drew = w2 at *
    go_wp2_with fail
    go_end0
    exact ⟨rfl, by rw [hw2]⟩
end Go.Proofs.Ybulkckyc
