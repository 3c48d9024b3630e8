import Derived.Test.YbulkckycQueue
namespace Go.Proofs.Ybulkckyc
open Go.RowKit

noncomputable def mrow (s : String) : Option (Array FieldStep × Option (FuncId × Bool)) := (Yba.t109.methods.find? (·.name == s)).map fun m => (m.path, m.func)
theorem row_of {s : String} {p : Array FieldStep} {f : Option (FuncId × Bool)} (h : mrow s = some (p, f)) : ∃ m, Yba.t109.methods.find? (·.name == s) = some m ∧ m.path = p ∧ m.func = f := by
  unfold mrow at h
  cases hm : Yba.t109.methods.find? (·.name == s) with
  | none => simp [hm] at h
  | some m => simp [hm] at h; exact ⟨m, rfl, h.1, h.2⟩
theorem Yba.mLen : mrow "Len" = some (#[], some (72, false)) := by kernel_rfl
theorem Yba.mLess : mrow "Less" = some (#[], some (73, false)) := by kernel_rfl
theorem Yba.mSwap : mrow "Swap" = some (#[], some (74, false)) := by kernel_rfl
theorem Yba.mPush : mrow "Push" = some (#[], some (79, true)) := by kernel_rfl
theorem Yba.mPop : mrow "Pop" = some (#[], some (78, true)) := by kernel_rfl

theorem wrapchk (a : Addr) (s : String) (w : World) : (Builtin.ssaWrapNilChk_ #[109] 109 #[.pointer (some a), strVal "", strVal s]).run Yba.prog w = .ok (.pointer (some a)) w := rfl

theorem meth_val {s : String} {f : FuncId} {W : Nat} {v : Value} {w : World} (h : mrow s = some (#[], some (f, false))) (hc : w.cell? ⟨W, 17, none⟩ = some v) : (method 273 109 (.pointer (some ⟨W, 17, none⟩)) s).run Yba.prog w = .ok (f, v) w := by
  obtain ⟨m, hm, hp, hf⟩ := row_of h
  unfold method
  simp [hm, hp, hf, follow, receiverAt, run_underlying Yba.underlying109, Place.get, wrapchk]
  simp [asAddr, go_sem, hc]
theorem meth_ptr {s : String} {f : FuncId} {v : Value} {w : World} (h : mrow s = some (#[], some (f, true))) : (method 273 109 v s).run Yba.prog w = .ok (f, v) w := by
  obtain ⟨m, hm, hp, hf⟩ := row_of h
  unfold method
  simp [hm, hp, hf, follow, receiverAt, run_underlying Yba.underlying109, Place.get]
end Go.Proofs.Ybulkckyc
