import Derived.Test.YbulkckuwRows
import Derived.Test.YbulkckuwPreWalk
import Derived.Test.YbulkckuwOpen
namespace Go.Proofs.Ybulkckuw.lawS4338BPrefilled
open Go.ChangeShapes Go.WideShapes Go.ChangeAt Go.RowKit

theorem okWide_array {P : Program} {W : World} {r : Reach} {base : Nat} {t e : TypeId} {n : Nat} {v : Value} (ht : P.underlying t = some (.array n e)) (h : Value.okWide P W r base t v) : ∃ cs, v = .agg cs := by
  simp only [Value.okWide, ht] at h
  obtain ⟨cs, h1, _⟩ := h
  exact ⟨cs, h1⟩

/-- what the walk is told of the ten marks that came in -/
theorem marks_open {H : Type} {enc : TypeId × Value → H} {W : World} {sp : Nat → Bool} {fuel : Nat} {mc : Array Value} {x : DataW H × List MemPlace}
    (h : DataW.trod enc Yba.prog W 0 sp true fuel 55 mc.toList = some x) : ∃ ms : Nat → Nat, (∀ i, i < 10 → mc[i]? = some (.int .u8 (ms i))) ∧ ∀ i, ms i < 256 := by
  obtain ⟨xs, m, _, _, _, hxl, hf⟩ := DataW.trod_array Yba.underlying55 h
  have each : ∀ i, ∃ z : Nat, z < 256 ∧ (i < 10 → mc[i]? = some (.int .u8 z)) := fun i => by
    by_cases hi : i < 10
    · have g := hf i hi
      rw [Yba.cells5] at g
      have hx : xs[i]? = some xs[i] := List.getElem?_eq_getElem (by omega)
      rw [hx] at g
      obtain ⟨z, e0, _, wz⟩ := DataW.trod_int Yba.underlying5 g
      have bz := bounds_u8 wz
      obtain ⟨z', rfl⟩ := Int.eq_ofNat_of_zero_le bz.1
      refine ⟨z', by omega, fun _ => ?_⟩
      have e1 : ((mc.toList.drop (i * 1)).take 1)[0]? = some (.int .u8 (z' : Int)) := by rw [e0]; rfl
      simpa using e1
    · exact ⟨0, by omega, fun h => absurd h hi⟩
  exact ⟨fun i => Classical.choose (each i), fun i hi => (Classical.choose_spec (each i)).2 hi, fun i => (Classical.choose_spec (each i)).1⟩

set_option maxRecDepth 100000 in
theorem lifted (os : Os) (started : os.Started) (H : Type) (enc : TypeId × Value → H) :
    ReturnsInHanded {} Yba.checked os 4 .any (Rows.lawS4338BPrefilledSpec.pre6 enc Yba.prog Yba.f4 Rows.lawS4338BPrefilledRow.domain false) (Rows.lawS4338BPrefilledSpec.post enc Yba.prog Yba.f4 false true false false) := by
  refine returnsInHanded_of_change (C := Yba.checked) own started (by kernel_rfl) Yba.func4
    (ChangeSpec.witness6 (enc := enc) (C := Yba.checked) false ⟨#[], #[.agg #[.int .u8 0, .int .u8 0, .int .u8 0, .int .u8 0, .int .u8 0, .int .u8 0, .int .u8 0, .int .u8 0, .int .u8 0, .int .u8 0], .slice none 0 0], []⟩ 8 (by kernel_rfl) (by kernel_rfl) (by kernel_rfl) (by kernel_rfl)) ?_
  intro W base args ds gs before hval0 hW hcnd _
  have hval : ∀ (j : Nat) t v, Yba.f4.params[j]? = some t → args[j]? = some v → Value.okWide Yba.prog W .any base t v := hval0
  have hW' := hW
  obtain ⟨p, q, hA0, hV, rfl, hfz, hnd⟩ := hW
  have hA : DataW.TrodAll enc Yba.prog W 0 (fun _ => true) true Yba.f4.params.toList args.toList ds p := hA0
  rw [Yba.params4] at hA hval
  obtain ⟨v0, vs0, d0, ds0, p0, q0, hargs, rfl, rfl, h0, r0⟩ := trodAll_cons hA
  obtain ⟨v1, vs1, d1, ds1, p1, q1, rfl, rfl, rfl, h1, r1⟩ := trodAll_cons r0
  obtain ⟨rfl, rfl, rfl⟩ := trodAll_nil r1
  obtain rfl : args = #[v0, v1] := by cases args; simp_all
  obtain ⟨rfl, rfl⟩ := trodVars_none hV
  obtain ⟨mc, rfl⟩ := okWide_array Yba.underlying55 (hval 0 55 v0 rfl rfl)
  obtain ⟨a1, len1, cap1, rfl⟩ := okWide_slice Yba.underlying22 (hval 1 22 v1 rfl rfl)
  have k0 := h0
  have k1 := h1
  have lt0 : ∀ x ∈ p0, x.block < W.heap.size := by obtain ⟨m, hm⟩ := k0; exact DataW.trod_lt m _ _ _ hm
  have lt1 : ∀ x ∈ p1, x.block < W.heap.size := by obtain ⟨m, hm⟩ := k1; exact DataW.trod_lt m _ _ _ hm
  obtain ⟨fuel0, hf0⟩ := h0
  obtain ⟨fuel, hf⟩ := h1
  obtain ⟨ms, hmc, hm8⟩ := marks_open (mc := mc) (by simpa [Value.cells] using hf0)
  obtain ⟨b, off, pk, sc, ha, hb, hpk, hc⟩ := steps_open (by simpa [Value.cells] using hf)
  have walk : Calls Yba.prog 4 #[.agg mc, .slice a1 len1 cap1] W fun e w' => e = .returned (.bool true) ∧ Below W.heap.size W w' := by
    by_cases hn : 1024 < len1
    · exact pre_long mc a1 len1 cap1 W hn
    · exact pre_walk mc ms a1 b off len1 cap1 pk sc W hmc hm8 (by omega) ha hb hpk hc
  clear hA0 hval0
  refine walk.mono fun e W' ⟨he, bel⟩ => ?_
  subst he
  exact ⟨_, rfl, _, _, _, [], _, [], hW', trodAll_mk1 (shut_bool Yba.underlying4 _),
    (trodAll_cons_mk (Below.trod laidOut (by kernel_rfl) (of_decide_eq_true (by kernel_rfl)) k0 bel lt0) (trodAll_cons_mk (Below.trod laidOut (by kernel_rfl) (of_decide_eq_true (by kernel_rfl)) k1 bel lt1) trodAll_mk0)), rfl, bel.frame _, fun h => by cases h⟩

theorem over : Rows.lawS4338BPrefilledRow.holds Yba.pinned (OpenSpec.ofChange Rows.lawS4338BPrefilledSpec) :=
  OpenClaim.holds_of_wide 4 Yba.f4 rfl rfl rfl rfl rfl rfl rfl ⟨rfl, rfl, rfl, rfl, rfl⟩ rfl rfl rfl rfl rfl (by kernel_rfl) Yba.func4 (by kernel_rfl)
    (of_decide_eq_true (by kernel_rfl)) (by unfold Func.isWrapper; first | (rw [if_pos (by decide +kernel)]; kernel_rfl) | (rw [if_neg (by decide +kernel)]; exact ⟨rfl, rfl⟩))
    (fun os started H enc _ => lifted os started H enc)

theorem proved : Rows.LawS4338BPrefilledSaid := over
end Go.Proofs.Ybulkckuw.lawS4338BPrefilled
