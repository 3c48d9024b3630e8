import Derived.Test.YbulkckycRelease
import Derived.Test.YbulkckycHeapRm
namespace Go.Proofs.Ybulkckyc
open Go.RowKit
variable {w0 wx w : World} {W C G : Nat} {D : Dat}

/-- how many of the first a are alive -/
def cnt (live : Nat → Bool) : Nat → Nat
  | 0 => 0
  | a + 1 => cnt live a + if live a then 1 else 0
def upB (live : Nat → Bool) (i : Nat) (b : Bool) : Nat → Bool := fun x => if x = i then b else live x
theorem cnt_le (live : Nat → Bool) (a : Nat) : cnt live a ≤ a := by
  induction a with
  | zero => exact Nat.le_refl _
  | succ a ih => unfold cnt; split <;> omega
theorem cnt_congr {live live' : Nat → Bool} {a : Nat} (h : ∀ i, i < a → live i = live' i) : cnt live a = cnt live' a := by
  induction a with
  | zero => rfl
  | succ a ih => unfold cnt; rw [ih (fun i hi => h i (by omega)), h a (by omega)]
theorem cnt_off {live : Nat → Bool} {a i : Nat} (hi : i < a) (hl : live i = true) : cnt (upB live i false) a + 1 = cnt live a := by
  induction a with
  | zero => omega
  | succ a ih =>
    unfold cnt
    by_cases e : i = a
    · subst e
      have h1 : cnt (upB live i false) i = cnt live i := cnt_congr (fun j hj => by unfold upB; rw [if_neg (by omega)])
      rw [h1, hl]
      simp [upB]
    · have h2 : upB live i false a = live a := by unfold upB; rw [if_neg (fun x => e x.symm)]
      have := ih (by omega)
      rw [h2]; omega
theorem cnt_on {live : Nat → Bool} {a : Nat} : cnt (upB live a true) (a + 1) = cnt live a + 1 := by
  have h1 : cnt (upB live a true) a = cnt live a := cnt_congr (fun j hj => by unfold upB; rw [if_neg (by omega)])
  show cnt (upB live a true) a + (if upB live a true a then 1 else 0) = _
  rw [h1]; simp [upB]

/-- the wheel's cells that stand still -/
structure Kon (C G cap : Nat) (wc : Nat → Nat → Value) : Prop where
  k0 : wc 0 0 = .iface 23 (.pointer (some ⟨C, 0, none⟩))
  k4 : wc 0 4 = .int .i64 1000000
  k5 : wc 0 5 = .int .u64 9671406556917033398
  k6 : wc 0 6 = .int .u64 19
  k7 : wc 0 7 = .int .i64 20
  k8 : wc 0 8 = .int .u64 14757395258967641293
  k9 : wc 0 9 = .int .u64 4
  k10 : wc 0 10 = .slice (some ⟨G, 0, none⟩) 15 cap
  k13 : wc 0 13 = .int .i32 1
  k15 : wc 0 15 = .int .i64 0
  k26 : wc 0 26 = .bool false
  k28 : wc 0 28 = .int .u64 0
  k29 : wc 0 29 = .int .u64 0
theorem Kon.of {C G cap : Nat} {wc wc' : Nat → Nat → Value} (h : Kon C G cap wc) (e : ∀ o, (o < 16 ∨ 21 < o) → o ≠ 27 → wc' 0 o = wc 0 o) : Kon C G cap wc' :=
  ⟨(e 0 (by omega) (by omega)).trans h.k0, (e 4 (by omega) (by omega)).trans h.k4, (e 5 (by omega) (by omega)).trans h.k5, (e 6 (by omega) (by omega)).trans h.k6, (e 7 (by omega) (by omega)).trans h.k7, (e 8 (by omega) (by omega)).trans h.k8,
   (e 9 (by omega) (by omega)).trans h.k9, (e 10 (by omega) (by omega)).trans h.k10, (e 13 (by omega) (by omega)).trans h.k13, (e 15 (by omega) (by omega)).trans h.k15, (e 26 (by omega) (by omega)).trans h.k26, (e 28 (by omega) (by omega)).trans h.k28, (e 29 (by omega) (by omega)).trans h.k29⟩

/-- the wheel with a timers armed, those alive in the lists L, the queue qs -/
structure Inv (C G cap : Nat) (D : Dat) (a : Nat) (live : Nat → Bool) (L : Nat × Nat → List Nat) (qs : List (Nat × Nat)) : Prop where
  hi : HI D qs
  kon : Kon C G cap D.wc
  lv : D.lv = (List.range D.nl).map D.ringV
  nl : D.nl ≤ 8
  nc : a = 0 ∧ D.nc = 0 ∨ 1 ≤ a ∧ D.nc = a / 1024 + 1
  nt : a ≤ D.nt
  a25 : a ≤ 2500
  cv : (0 < cnt live a ∨ a = 0) → D.cv = (List.range D.nc).map D.chunkP
  tm : ∀ i, i < a → D.tc i 3 = i32v (if live i then i + 1 else 0)
  ql : ∀ s, s ∈ qs ↔ L s ≠ []
  hd : ∀ k j, k < D.nl → j < 20 → Heads D (k, j) (L (k, j))
  ch : ∀ s, Chain D.ent (L s)
  ij : ∀ s, Inj (L s)
  le : ∀ s e, e ∈ L s → 1 ≤ e ∧ e ≤ a ∧ D.ent e 1 = D.slotP s ∧ live (e - 1) = true
  ll : ∀ i, i < a → live i = true → ∃ s, i + 1 ∈ L s
  u21 : D.wc 0 21 = i32v (cnt live a)
  u27 : D.wc 0 27 = .int .u64 (cnt live a)
  ar : cnt live a = a → D.wc 0 19 = i32v a ∧ D.wc 0 20 = i32v 0
  fr : ∃ f : Int, D.wc 0 20 = .int .i32 f
  qa : qs.length ≤ a
  cc : ∃ z : Int, D.cc 0 0 = .int .i64 z

/-- an entry stands in one list alone -/
theorem Inv.one {cap a : Nat} {live : Nat → Bool} {L : Nat × Nat → List Nat} {qs : List (Nat × Nat)} (h : Inv C G cap D a live L qs) (s : St w0 wx W C G D w) {x y : Nat × Nat} {e : Nat} (hx : e ∈ L x) (hy : e ∈ L y) : x = y := by
  have h1 := (h.le x e hx).2.2.1.symm.trans (h.le y e hy).2.2.1
  obtain ⟨bx, _⟩ := h.hi.bd x ((h.ql x).2 (List.ne_nil_of_mem hx))
  obtain ⟨by', _⟩ := h.hi.bd y ((h.ql y).2 (List.ne_nil_of_mem hy))
  simp only [Dat.slotP, Value.pointer.injEq, Option.some.injEq, Addr.mk.injEq, and_true] at h1
  exact Prod.ext (s.fR.inj _ _ bx by' h1.1) (by omega)
/-- no timer alive: the queue is empty -/
theorem Inv.empty {cap a : Nat} {live : Nat → Bool} {L : Nat × Nat → List Nat} {qs : List (Nat × Nat)} (h : Inv C G cap D a live L qs) (hd : ∀ i, i < a → live i = false) : qs = [] := by
  apply List.eq_nil_iff_forall_not_mem.2
  intro s hs
  obtain ⟨e, he⟩ := List.exists_mem_of_ne_nil _ ((h.ql s).1 hs)
  obtain ⟨h1, h2, _, h4⟩ := h.le s e he
  rw [hd (e - 1) (by omega)] at h4
  cases h4

theorem Yba.mRearm : ((Yba.t23.methods.find? (·.name == "example.com/cascade/cascade.rearm")).map fun m => (m.path, m.func)) = some (#[], some (67, true)) := by kernel_rfl
theorem meth_rearm (v : Value) (w : World) : (method 273 23 v "example.com/cascade/cascade.rearm").run Yba.prog w = .ok (67, v) w := by
  obtain ⟨m, hm, hp⟩ := Option.map_eq_some_iff.1 Yba.mRearm
  simp only [Prod.mk.injEq] at hp
  unfold method
  simp [hm, hp.1, hp.2, follow, receiverAt, run_underlying Yba.underlying23, Place.get]

theorem rearm_call (s : St w0 wx W C G D w) {z : Int} (hz : D.cc 0 0 = .int .i64 z) (v : Value) :
    Calls Yba.prog 67 #[.pointer (some ⟨C, 0, none⟩), v] w fun e w' => e = .returned (.tuple #[]) ∧ ∃ z' : Int, St w0 wx W C G { D with cc := up2 D.cc 0 0 (.int .i64 z') } w' := by
  have c0 := (s.fC.cell 0 0 (by omega) (by omega)).trans (congrArg some hz)
  have f0 := tyOf_frozen (s.fC.ty 0 (by omega)) 0
  go_enter Yba.func67, Yba.ntmps67
  go_wp2_with fail
  go_end0
  exact ⟨rfl, _, s.setC 0 _⟩
end Go.Proofs.Ybulkckyc
