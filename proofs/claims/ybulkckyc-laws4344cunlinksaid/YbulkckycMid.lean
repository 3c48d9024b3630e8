import Derived.Test.YbulkckycList
namespace Go.Proofs.Ybulkckyc
open Go.RowKit

set_option maxHeartbeats 1000000 in
/-- remove of an entry in the midst of its list -/
theorem remove_mid (W R o E p i y F q x F2 q2 g n cap : Nat) (ox ox2 : Value) (w : World) (hq : Apart5 F q E p) (hq2 : Apart5 F2 q2 E p) (hWF : W ≠ F) (hgF : g ≠ F) (hy : (y : Int) ≠ 0) (hx : (x : Int) ≠ 0)
    (c3 : w.cell? ⟨E, p + 3, none⟩ = some (.int .i32 y)) (c4 : w.cell? ⟨E, p + 4, none⟩ = some (.int .i32 x)) (fE : ∀ q, w.frozen? ⟨E, q, none⟩ = false) (hat : y < 2147483648 ∧ y / 1024 < n) (hat2 : x < 2147483648 ∧ x / 1024 < n) (c18 : w.cell? ⟨W, 18, none⟩ = some (.slice (some ⟨g, 0, none⟩) n cap))
    (cg : w.cell? ⟨g, y / 1024, none⟩ = some (.pointer (some ⟨F, 0, none⟩))) (cg2 : w.cell? ⟨g, x / 1024, none⟩ = some (.pointer (some ⟨F2, 0, none⟩))) (hqt : y % 1024 * 5 = q) (hqt2 : x % 1024 * 5 = q2) (cF : w.cell? ⟨F, q + 4, none⟩ = some ox) (fF : ∀ q, w.frozen? ⟨F, q, none⟩ = false)
    (cF2 : w.cell? ⟨F2, q2 + 3, none⟩ = some ox2) (fF2 : ∀ q, w.frozen? ⟨F2, q, none⟩ = false) :
    Calls Yba.prog 27 #[.pointer (some ⟨R, o + 2, none⟩), .pointer (some ⟨W, 18, none⟩), .int .i32 i, .pointer (some ⟨E, p, none⟩)] w fun e w' => e = .returned (.tuple #[]) ∧
      w' = (((w.setCell ⟨F, q + 4, none⟩ (.int .i32 x)).drew.setCell ⟨F2, q2 + 3, none⟩ (.int .i32 y)).drew.setCell ⟨E, p + 3, none⟩ (.int .i32 0)).setCell ⟨E, p + 4, none⟩ (.int .i32 0) := by
  have g3 := fE (p + 3)
  have g4 := fE (p + 4)
  have k4 := fF (q + 4)
  have k3 := fF2 (q2 + 3)
  have hy2 : ((y : Int) == 0) = false := by simpa using hy
  have hx2 : ((x : Int) == 0) = false := by simpa using hx
  have HB : Calls Yba.prog 26 #[.pointer (some ⟨W, 18, none⟩), .int .i32 y] w.drew fun e w' => e = .returned (.pointer (some ⟨F, q, none⟩)) ∧ w' = w.drew := by
    rw [← hqt]; exact at_walk W g n cap F y w.drew c18 hat.1 hat.2 cg
  have d3 : (w.setCell ⟨F, q + 4, none⟩ (.int .i32 x)).drew.cell? ⟨E, p + 3, none⟩ = some (.int .i32 y) := (World.cell?_setCell_other w _ _ _ (hq.ne (by omega) (by omega))).trans c3
  have d4 : (w.setCell ⟨F, q + 4, none⟩ (.int .i32 x)).drew.cell? ⟨E, p + 4, none⟩ = some (.int .i32 x) := (World.cell?_setCell_other w _ _ _ (hq.ne (by omega) (by omega))).trans c4
  have m3 : (w.setCell ⟨F, q + 4, none⟩ (.int .i32 x)).drew.frozen? ⟨E, p + 3, none⟩ = false := by simp [g3]
  have m4 : (w.setCell ⟨F, q + 4, none⟩ (.int .i32 x)).drew.frozen? ⟨E, p + 4, none⟩ = false := by simp [g4]
  obtain ⟨ox3, d5⟩ : ∃ v, (w.setCell ⟨F, q + 4, none⟩ (.int .i32 x)).drew.cell? ⟨F2, q2 + 3, none⟩ = some v := ⟨_, set_cell cF2⟩
  have m5 : (w.setCell ⟨F, q + 4, none⟩ (.int .i32 x)).drew.frozen? ⟨F2, q2 + 3, none⟩ = false := by simp [k3]
  have HC : ∀ w2, (w.setCell ⟨F, q + 4, none⟩ (.int .i32 x)).drew = w2 → Calls Yba.prog 26 #[.pointer (some ⟨W, 18, none⟩), .int .i32 x] w2.drew fun e w' => e = .returned (.pointer (some ⟨F2, q2, none⟩)) ∧ w' = w2.drew := fun w2 hw => by
    rw [← hqt2, ← hw]
    exact at_walk W g n cap F2 x _ ((set_cell_ne hWF).trans c18) hat2.1 hat2.2 ((set_cell_ne hgF).trans cg2)
  clear hat hqt hat2 hqt2
  go_enter Yba.func27, Yba.ntmps27
  go_wp2_with fail
  go_cut [0, 1, 2, 3] (fun a b c d wc => a = .pointer (some ⟨R, o + 2, none⟩) ∧ b = .pointer (some ⟨W, 18, none⟩) ∧ c = .int .i32 i ∧ d = .pointer (some ⟨E, p, none⟩) ∧ wc = (w.setCell ⟨F, q + 4, none⟩ (.int .i32 x)).drew)
  case first =>
    go_region_with (go_at_call 26; refine HB.mono ?_; rintro e w' ⟨rfl, rfl⟩)
    all_goals
      go_wp2_with fail
      go_meet
      exact ⟨rfl, rfl, rfl, rfl, rfl⟩
  case rest =>
    obtain ⟨rfl, rfl, rfl, rfl, rfl⟩ := hcut
    generalize hw2 : (w.setCell ⟨F, q + 4, none⟩ (.int .i32 x)).drew = w2 at *
    have HD := HC w2 rfl
    clear HC HB c3 c4 cF cF2 fF fF2 k4 k3 g3 g4 c18 cg cg2 hWF hgF fE
    go_wp2_with fail
    have e3 : (w2.setCell ⟨F2, q2 + 3, none⟩ (.int .i32 y)).drew.cell? ⟨E, p + 3, none⟩ = some (.int .i32 y) := (World.cell?_setCell_other w2 _ _ _ (hq2.ne (by omega) (by omega))).trans d3
    have e4 : (w2.setCell ⟨F2, q2 + 3, none⟩ (.int .i32 y)).drew.cell? ⟨E, p + 4, none⟩ = some (.int .i32 x) := (World.cell?_setCell_other w2 _ _ _ (hq2.ne (by omega) (by omega))).trans d4
    have n3 : (w2.setCell ⟨F2, q2 + 3, none⟩ (.int .i32 y)).drew.frozen? ⟨E, p + 3, none⟩ = false := by simp [m3]
    have n4 : (w2.setCell ⟨F2, q2 + 3, none⟩ (.int .i32 y)).drew.frozen? ⟨E, p + 4, none⟩ = false := by simp [m4]
    go_region_with (go_at_call 26; refine HD.mono ?_; rintro e w' ⟨rfl, rfl⟩)
    all_goals
      generalize hw3 : (w2.setCell ⟨F2, q2 + 3, none⟩ (.int .i32 y)).drew = w3 at *
      go_wp2_with fail
      go_end0
      exact ⟨rfl, by rw [hw2, hw3]⟩
end Go.Proofs.Ybulkckyc
