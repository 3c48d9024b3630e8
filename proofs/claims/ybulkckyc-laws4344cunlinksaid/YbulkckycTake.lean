import Derived.Test.YbulkckycEntry
namespace Go.Proofs.Ybulkckyc
open Go.RowKit

set_option maxHeartbeats 1000000 in
/-- take of an entry of a chunk that is there -/
theorem take_old (W g n cap E p k u : Nat) (tv : Value) (tp : Option Addr) (due : Int) (a0 a1 a2 a3 a4 : Value) (w : World) (hWE : W ≠ E) (hgW : g ≠ W) (hk : k < 2500) (hu : u < 2500) (hi : (k + 1) / 1024 < n) (hp : (k + 1) % 1024 * 5 = p) (htv : tv = .pointer tp)
    (c18 : w.cell? ⟨W, 18, none⟩ = some (.slice (some ⟨g, 0, none⟩) n cap)) (c19 : w.cell? ⟨W, 19, none⟩ = some (.int .i32 k)) (c20 : w.cell? ⟨W, 20, none⟩ = some (.int .i32 0)) (c21 : w.cell? ⟨W, 21, none⟩ = some (.int .i32 u)) (fW : ∀ q, w.frozen? ⟨W, q, none⟩ = false)
    (cg : w.cell? ⟨g, (k + 1) / 1024, none⟩ = some (.pointer (some ⟨E, 0, none⟩)))
    (e0 : w.cell? ⟨E, p, none⟩ = some a0) (e1 : w.cell? ⟨E, p + 1, none⟩ = some a1) (e2 : w.cell? ⟨E, p + 2, none⟩ = some a2) (e3 : w.cell? ⟨E, p + 3, none⟩ = some a3) (e4 : w.cell? ⟨E, p + 4, none⟩ = some a4) (fE : ∀ q, w.frozen? ⟨E, q, none⟩ = false) :
    Calls Yba.prog 17 #[.pointer (some ⟨W, 18, none⟩), tv, .int .i64 due] w fun e w' => e = .returned (.tuple #[.int .i32 (k + 1 : Nat), .pointer (some ⟨E, p, none⟩)]) ∧
      w' = ((((((w.setCell ⟨W, 19, none⟩ (.int .i32 (k + 1 : Nat))).setCell ⟨W, 21, none⟩ (.int .i32 (u + 1 : Nat))).setCell ⟨E, p, none⟩ tv).setCell ⟨E, p + 1, none⟩ (.pointer none)).setCell ⟨E, p + 2, none⟩ (.int .i64 due)).setCell ⟨E, p + 3, none⟩ (.int .i32 0)).setCell ⟨E, p + 4, none⟩ (.int .i32 0) := by
  subst htv
  have f19 := fW 19
  have f21 := fW 21
  have g0 := fE p
  have g1 := fE (p + 1)
  have g2 := fE (p + 2)
  have g3 := fE (p + 3)
  have g4 := fE (p + 4)
  have hk1 : ((k + 1 : Nat) : Int) = (k : Int) + 1 := by omega
  have hu1 : ((u + 1 : Nat) : Int) = (u : Int) + 1 := by omega
  have hkb : (k : Int) < 2500 := by omega
  have hub : (u : Int) < 2500 := by omega
  have hne : ((k : Int) == 2147483647) = false := by simp; omega
  have hlen : (((k : Int) + 1) / 1024 == (n : Int)) = false := by simp; omega
  have HA : Calls Yba.prog 26 #[.pointer (some ⟨W, 18, none⟩), .int .i32 ((k : Int) + 1)] (w.setCell ⟨W, 19, none⟩ (.int .i32 ((k : Int) + 1))) fun e w' => e = .returned (.pointer (some ⟨E, p, none⟩)) ∧ w' = w.setCell ⟨W, 19, none⟩ (.int .i32 ((k : Int) + 1)) := by
    have h := at_walk W g n cap E (k + 1) (w.setCell ⟨W, 19, none⟩ (.int .i32 ((k : Int) + 1))) (by rw [set_cell c18, if_neg (by simp)]) (by omega) hi (by rw [set_cell_ne hgW]; exact cg)
    rw [hp, hk1] at h
    exact h
  rw [hk1, hu1]
  clear hp hi cg
  go_enter Yba.func17, Yba.ntmps17
  go_wp2_with fail
  refine HA.mono ?_
  rintro e w' ⟨rfl, rfl⟩
  go_wp2_with fail
  go_ret2
  exact ⟨rfl, rfl⟩
end Go.Proofs.Ybulkckyc
