import Derived.Test.YbulkckycList
import Derived.Lib.SliceRun
namespace Go.Proofs.Ybulkckyc
open Go.RowKit

set_option maxHeartbeats 1000000 in
/-- release while others are in use -/
theorem release_keep (W E p i : Nat) (u : Nat) (a0 a1 a2 a3 a4 : Value) (f : Int) (w : World) (hWE : W ≠ E) (hu : 2 ≤ u ∧ u ≤ 2500) (c20 : w.cell? ⟨W, 20, none⟩ = some (.int .i32 f)) (c21 : w.cell? ⟨W, 21, none⟩ = some (.int .i32 u)) (fW : ∀ q, w.frozen? ⟨W, q, none⟩ = false)
    (e0 : w.cell? ⟨E, p, none⟩ = some a0) (e1 : w.cell? ⟨E, p + 1, none⟩ = some a1) (e2 : w.cell? ⟨E, p + 2, none⟩ = some a2) (e3 : w.cell? ⟨E, p + 3, none⟩ = some a3) (e4 : w.cell? ⟨E, p + 4, none⟩ = some a4) (fE : ∀ q, w.frozen? ⟨E, q, none⟩ = false) :
    Calls Yba.prog 28 #[.pointer (some ⟨W, 18, none⟩), .int .i32 i, .pointer (some ⟨E, p, none⟩)] w fun e w' => e = .returned (.tuple #[]) ∧
      w' = (((((((w.setCell ⟨E, p, none⟩ (.pointer none)).setCell ⟨E, p + 1, none⟩ (.pointer none)).setCell ⟨E, p + 2, none⟩ (.int .i64 0)).setCell ⟨E, p + 3, none⟩ (.int .i32 0)).setCell ⟨E, p + 4, none⟩ (.int .i32 f)).setCell ⟨W, 20, none⟩ (.int .i32 i)).setCell ⟨W, 21, none⟩ (.int .i32 (u - 1 : Nat))) := by
  have f20 := fW 20
  have f21 := fW 21
  have g0 := fE p
  have g1 := fE (p + 1)
  have g2 := fE (p + 2)
  have g3 := fE (p + 3)
  have g4 := fE (p + 4)
  have hu1 : 2 ≤ (u : Int) := by omega
  have hu2 : (u : Int) ≤ 2500 := by omega
  have hz : (((u : Int) - 1) == 0) = false := by simp; omega
  have hc : ((u - 1 : Nat) : Int) = (u : Int) - 1 := by omega
  rw [hc]
  go_enter Yba.func28, Yba.ntmps28
  go_wp2_with fail
  go_end0
  exact ⟨rfl, rfl⟩

set_option maxHeartbeats 1000000 in
/-- release of the last entry in use, one chunk -/
theorem release_last1 (W E p i : Nat) (a0 a1 a2 a3 a4 : Value) (f : Int) (w : World) (hWE : W ≠ E) (g cap : Nat) (c18 : w.cell? ⟨W, 18, none⟩ = some (.slice (some ⟨g, 0, none⟩) 1 cap)) (c20 : w.cell? ⟨W, 20, none⟩ = some (.int .i32 f)) (c21 : w.cell? ⟨W, 21, none⟩ = some (.int .i32 1)) (fW : ∀ q, w.frozen? ⟨W, q, none⟩ = false)
    (e0 : w.cell? ⟨E, p, none⟩ = some a0) (e1 : w.cell? ⟨E, p + 1, none⟩ = some a1) (e2 : w.cell? ⟨E, p + 2, none⟩ = some a2) (e3 : w.cell? ⟨E, p + 3, none⟩ = some a3) (e4 : w.cell? ⟨E, p + 4, none⟩ = some a4) (fE : ∀ q, w.frozen? ⟨E, q, none⟩ = false) :
    Calls Yba.prog 28 #[.pointer (some ⟨W, 18, none⟩), .int .i32 i, .pointer (some ⟨E, p, none⟩)] w fun e w' => e = .returned (.tuple #[]) ∧
      w' = (((((((w.setCell ⟨E, p, none⟩ (.pointer none)).setCell ⟨E, p + 1, none⟩ (.pointer none)).setCell ⟨E, p + 2, none⟩ (.int .i64 0)).setCell ⟨E, p + 3, none⟩ (.int .i32 0)).setCell ⟨E, p + 4, none⟩ (.int .i32 f)).setCell ⟨W, 20, none⟩ (.int .i32 i)).setCell ⟨W, 21, none⟩ (.int .i32 0)) := by
  have f20 := fW 20
  have f21 := fW 21
  have g0 := fE p
  have g1 := fE (p + 1)
  have g2 := fE (p + 2)
  have g3 := fE (p + 3)
  have g4 := fE (p + 4)
  go_enter Yba.func28, Yba.ntmps28
  go_wp2_with fail
  go_end0
  exact ⟨rfl, rfl⟩

/-- what release writes ahead of the chunks' clearing -/
def relW (W E p i : Nat) (f : Int) (w : World) : World := (((((((w.setCell ⟨E, p, none⟩ (.pointer none)).setCell ⟨E, p + 1, none⟩ (.pointer none)).setCell ⟨E, p + 2, none⟩ (.int .i64 0)).setCell ⟨E, p + 3, none⟩ (.int .i32 0)).setCell ⟨E, p + 4, none⟩ (.int .i32 f)).setCell ⟨W, 20, none⟩ (.int .i32 i)).setCell ⟨W, 21, none⟩ (.int .i32 0))
theorem relW_other {W E p i : Nat} {f : Int} {w : World} {b o : Nat} (h1 : b ≠ W) (h2 : b ≠ E) : (relW W E p i f w).cell? ⟨b, o, none⟩ = w.cell? ⟨b, o, none⟩ := by
  unfold relW
  rw [set_cell_ne h1, set_cell_ne h1, set_cell_ne h2, set_cell_ne h2, set_cell_ne h2, set_cell_ne h2, set_cell_ne h2]
theorem relW_wheel {W E p i : Nat} {f : Int} {w : World} {o : Nat} {v : Value} (h : W ≠ E) (hv : w.cell? ⟨W, o, none⟩ = some v) : (relW W E p i f w).cell? ⟨W, o, none⟩ = some (if o = 21 then .int .i32 0 else if o = 20 then .int .i32 i else v) := by
  unfold relW
  rw [set_cell (set_cell ((set_cell_ne h).trans ((set_cell_ne h).trans ((set_cell_ne h).trans ((set_cell_ne h).trans ((set_cell_ne h).trans hv))))))]
  simp only [Addr.mk.injEq, true_and, and_true]
  congr 1
  by_cases e : o = 21
  · subst e; simp
  · by_cases e2 : o = 20
    · subst e2; simp
    · rw [if_neg (fun x => e x.symm), if_neg (fun x => e2 x.symm), if_neg e, if_neg e2]
theorem relW_frozen {W E p i : Nat} {f : Int} {w : World} {b o : Nat} (h : w.frozen? ⟨b, o, none⟩ = false) : (relW W E p i f w).frozen? ⟨b, o, none⟩ = false := by
  unfold relW; simp [h]
theorem setCells_frozen {w : World} {b g o q : Nat} {l : List Value} (h : w.frozen? ⟨b, q, none⟩ = false) : (w.setCells g o l).frozen? ⟨b, q, none⟩ = false := by
  induction l generalizing w o with
  | nil => exact h
  | cons v l ih => exact ih (by simp [h])
theorem setCells_ne {w : World} {b g o q : Nat} {l : List Value} (h : b ≠ g) : (w.setCells g o l).cell? ⟨b, q, none⟩ = w.cell? ⟨b, q, none⟩ := by
  induction l generalizing w o with
  | nil => rfl
  | cons v l ih => exact ih.trans (set_cell_ne h)

set_option maxHeartbeats 4000000 in
set_option maxRecDepth 10000 in
/-- release of the last entry in use, n chunks -/
theorem release_lastN (W E p i g n cap : Nat) (a0 a1 a2 a3 a4 n0 : Value) (f : Int) (w : World) (hWE : W ≠ E) (hgE : g ≠ E) (hgW : g ≠ W) (hn : 1 < n) (hcap : n ≤ cap) (hn3 : n ≤ 1000) (c18 : w.cell? ⟨W, 18, none⟩ = some (.slice (some ⟨g, 0, none⟩) n cap)) (c19 : w.cell? ⟨W, 19, none⟩ = some n0)
    (c20 : w.cell? ⟨W, 20, none⟩ = some (.int .i32 f)) (c21 : w.cell? ⟨W, 21, none⟩ = some (.int .i32 1)) (fW : ∀ q, w.frozen? ⟨W, q, none⟩ = false) (cg : ∀ j, j < n → (w.cell? ⟨g, j, none⟩).isSome = true) (fg : ∀ q, w.frozen? ⟨g, q, none⟩ = false)
    (e0 : w.cell? ⟨E, p, none⟩ = some a0) (e1 : w.cell? ⟨E, p + 1, none⟩ = some a1) (e2 : w.cell? ⟨E, p + 2, none⟩ = some a2) (e3 : w.cell? ⟨E, p + 3, none⟩ = some a3) (e4 : w.cell? ⟨E, p + 4, none⟩ = some a4) (fE : ∀ q, w.frozen? ⟨E, q, none⟩ = false) :
    Calls Yba.prog 28 #[.pointer (some ⟨W, 18, none⟩), .int .i32 i, .pointer (some ⟨E, p, none⟩)] w fun e w' => e = .returned (.tuple #[]) ∧
      w' = ((((relW W E p i f w).setCells g 1 (List.replicate (n - 1) (.pointer none))).setCell ⟨W, 18, none⟩ (.slice (some ⟨g, 0, none⟩) 1 cap)).setCell ⟨W, 19, none⟩ (.int .i32 0)).setCell ⟨W, 20, none⟩ (.int .i32 0) := by
  have f20 := fW 20
  have f21 := fW 21
  have g0 := fE p
  have g1 := fE (p + 1)
  have g2 := fE (p + 2)
  have g3 := fE (p + 3)
  have g4 := fE (p + 4)
  have hcl := Lib.run_clear_slice (P := Yba.prog) (relW W E p i f w) 50 113 0 (.pointer none) Yba.underlying50 Yba.zeroValue113 rfl rfl g 1 (n - 1) (cap - 1) (by omega)
    (fun j hj => by rw [relW_other hgW hgE]; exact cg (1 + j) (by omega)) (fun j _ => relW_frozen (fg _))
  have d18 : ((relW W E p i f w).setCells g 1 (List.replicate (n - 1) (.pointer none))).cell? ⟨W, 18, none⟩ = some (.slice (some ⟨g, 0, none⟩) n cap) := (setCells_ne (fun x => hgW x.symm)).trans (relW_wheel hWE c18)
  have d19 : ((relW W E p i f w).setCells g 1 (List.replicate (n - 1) (.pointer none))).cell? ⟨W, 19, none⟩ = some n0 := (setCells_ne (fun x => hgW x.symm)).trans (relW_wheel hWE c19)
  have d20 : ((relW W E p i f w).setCells g 1 (List.replicate (n - 1) (.pointer none))).cell? ⟨W, 20, none⟩ = some (.int .i32 i) := (setCells_ne (fun x => hgW x.symm)).trans (relW_wheel hWE c20)
  have m18 : ((relW W E p i f w).setCells g 1 (List.replicate (n - 1) (.pointer none))).frozen? ⟨W, 18, none⟩ = false := setCells_frozen (relW_frozen (fW _))
  have m19 : ((relW W E p i f w).setCells g 1 (List.replicate (n - 1) (.pointer none))).frozen? ⟨W, 19, none⟩ = false := setCells_frozen (relW_frozen (fW _))
  have m20 : ((relW W E p i f w).setCells g 1 (List.replicate (n - 1) (.pointer none))).frozen? ⟨W, 20, none⟩ = false := setCells_frozen (relW_frozen (fW _))
  generalize (relW W E p i f w).setCells g 1 (List.replicate (n - 1) (.pointer none)) = w2 at *
  unfold relW at hcl
  clear cg fg fE fW hgE hgW
  go_enter Yba.func28, Yba.ntmps28
  go_wp2_with fail
  go_end0
  exact ⟨rfl, rfl⟩
end Go.Proofs.Ybulkckyc
