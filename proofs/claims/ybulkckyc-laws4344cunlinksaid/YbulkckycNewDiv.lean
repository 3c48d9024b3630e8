import Derived.Test.YbulkckycDiv
namespace Go.Proofs.Ybulkckyc
open Go.RowKit

/-- newDivisor(1): {1, 0, 0}; one new block. -/
theorem newDiv_1 (w : World) : Calls Yba.prog 10 #[.int .i64 1] w fun e w' => e = .returned (.agg #[.int .i64 1, .int .u64 0, .int .u64 0]) ∧ w' = w.alloc (.cells #[.int .i64 1, .int .u64 0, .int .u64 0] 37) := by
  go_enter Yba.func10, Yba.ntmps10
  go_wp2_with fail
  exact bodyPost_ret (v := .agg #[.int .i64 1, .int .u64 0, .int .u64 0]) (by simp [results, Yba.results10, go_sem]) rfl ⟨rfl, rfl⟩

set_option maxHeartbeats 1000000 in
theorem newDiv_1000000 (w : World) : Calls Yba.prog 10 #[.int .i64 1000000] w fun e w' => e = .returned (.agg #[.int .i64 1000000, .int .u64 9671406556917033398, .int .u64 19]) ∧ w' = w.alloc (.cells #[.int .i64 1000000, .int .u64 9671406556917033398, .int .u64 19] 37) := by
  have hb : (Lib.bitLen ((999999 : Int).toNat) : Int) = 20 := by decide
  go_enter Yba.func10, Yba.ntmps10
  go_wp2_with fail
  refine (Yba.bits_Len64 999999 _ (by omega) (by omega)).mono ?_
  rw [hb]
  rintro e w' ⟨rfl, rfl⟩
  go_wp2_with fail
  refine (div_1000000 _).mono ?_
  rintro e w' ⟨rfl, rfl⟩
  go_wp2_with fail
  exact bodyPost_ret (v := .agg #[.int .i64 1000000, .int .u64 9671406556917033398, .int .u64 19]) (by simp [results, Yba.results10, go_sem]) rfl ⟨rfl, rfl⟩

set_option maxHeartbeats 1000000 in
theorem newDiv_20 (w : World) : Calls Yba.prog 10 #[.int .i64 20] w fun e w' => e = .returned (.agg #[.int .i64 20, .int .u64 14757395258967641293, .int .u64 4]) ∧ w' = w.alloc (.cells #[.int .i64 20, .int .u64 14757395258967641293, .int .u64 4] 37) := by
  have hb : (Lib.bitLen ((19 : Int).toNat) : Int) = 5 := by decide
  go_enter Yba.func10, Yba.ntmps10
  go_wp2_with fail
  refine (Yba.bits_Len64 19 _ (by omega) (by omega)).mono ?_
  rw [hb]
  rintro e w' ⟨rfl, rfl⟩
  go_wp2_with fail
  refine (div_20 _).mono ?_
  rintro e w' ⟨rfl, rfl⟩
  go_wp2_with fail
  exact bodyPost_ret (v := .agg #[.int .i64 20, .int .u64 14757395258967641293, .int .u64 4]) (by simp [results, Yba.results10, go_sem]) rfl ⟨rfl, rfl⟩

set_option maxHeartbeats 1000000 in
theorem newDiv_400 (w : World) : Calls Yba.prog 10 #[.int .i64 400] w fun e w' => e = .returned (.agg #[.int .i64 400, .int .u64 11805916207174113035, .int .u64 8]) ∧ w' = w.alloc (.cells #[.int .i64 400, .int .u64 11805916207174113035, .int .u64 8] 37) := by
  have hb : (Lib.bitLen ((399 : Int).toNat) : Int) = 9 := by decide
  go_enter Yba.func10, Yba.ntmps10
  go_wp2_with fail
  refine (Yba.bits_Len64 399 _ (by omega) (by omega)).mono ?_
  rw [hb]
  rintro e w' ⟨rfl, rfl⟩
  go_wp2_with fail
  refine (div_400 _).mono ?_
  rintro e w' ⟨rfl, rfl⟩
  go_wp2_with fail
  exact bodyPost_ret (v := .agg #[.int .i64 400, .int .u64 11805916207174113035, .int .u64 8]) (by simp [results, Yba.results10, go_sem]) rfl ⟨rfl, rfl⟩

set_option maxHeartbeats 1000000 in
theorem newDiv_8000 (w : World) : Calls Yba.prog 10 #[.int .i64 8000] w fun e w' => e = .returned (.agg #[.int .i64 8000, .int .u64 9444732965739290428, .int .u64 12]) ∧ w' = w.alloc (.cells #[.int .i64 8000, .int .u64 9444732965739290428, .int .u64 12] 37) := by
  have hb : (Lib.bitLen ((7999 : Int).toNat) : Int) = 13 := by decide
  go_enter Yba.func10, Yba.ntmps10
  go_wp2_with fail
  refine (Yba.bits_Len64 7999 _ (by omega) (by omega)).mono ?_
  rw [hb]
  rintro e w' ⟨rfl, rfl⟩
  go_wp2_with fail
  refine (div_8000 _).mono ?_
  rintro e w' ⟨rfl, rfl⟩
  go_wp2_with fail
  exact bodyPost_ret (v := .agg #[.int .i64 8000, .int .u64 9444732965739290428, .int .u64 12]) (by simp [results, Yba.results10, go_sem]) rfl ⟨rfl, rfl⟩

set_option maxHeartbeats 1000000 in
theorem newDiv_160000 (w : World) : Calls Yba.prog 10 #[.int .i64 160000] w fun e w' => e = .returned (.agg #[.int .i64 160000, .int .u64 15111572745182864684, .int .u64 17]) ∧ w' = w.alloc (.cells #[.int .i64 160000, .int .u64 15111572745182864684, .int .u64 17] 37) := by
  have hb : (Lib.bitLen ((159999 : Int).toNat) : Int) = 18 := by decide
  go_enter Yba.func10, Yba.ntmps10
  go_wp2_with fail
  refine (Yba.bits_Len64 159999 _ (by omega) (by omega)).mono ?_
  rw [hb]
  rintro e w' ⟨rfl, rfl⟩
  go_wp2_with fail
  refine (div_160000 _).mono ?_
  rintro e w' ⟨rfl, rfl⟩
  go_wp2_with fail
  exact bodyPost_ret (v := .agg #[.int .i64 160000, .int .u64 15111572745182864684, .int .u64 17]) (by simp [results, Yba.results10, go_sem]) rfl ⟨rfl, rfl⟩

set_option maxHeartbeats 1000000 in
theorem newDiv_3200000 (w : World) : Calls Yba.prog 10 #[.int .i64 3200000] w fun e w' => e = .returned (.agg #[.int .i64 3200000, .int .u64 12089258196146291748, .int .u64 21]) ∧ w' = w.alloc (.cells #[.int .i64 3200000, .int .u64 12089258196146291748, .int .u64 21] 37) := by
  have hb : (Lib.bitLen ((3199999 : Int).toNat) : Int) = 22 := by decide
  go_enter Yba.func10, Yba.ntmps10
  go_wp2_with fail
  refine (Yba.bits_Len64 3199999 _ (by omega) (by omega)).mono ?_
  rw [hb]
  rintro e w' ⟨rfl, rfl⟩
  go_wp2_with fail
  refine (div_3200000 _).mono ?_
  rintro e w' ⟨rfl, rfl⟩
  go_wp2_with fail
  exact bodyPost_ret (v := .agg #[.int .i64 3200000, .int .u64 12089258196146291748, .int .u64 21]) (by simp [results, Yba.results10, go_sem]) rfl ⟨rfl, rfl⟩

set_option maxHeartbeats 1000000 in
theorem newDiv_64000000 (w : World) : Calls Yba.prog 10 #[.int .i64 64000000] w fun e w' => e = .returned (.agg #[.int .i64 64000000, .int .u64 9671406556917033398, .int .u64 25]) ∧ w' = w.alloc (.cells #[.int .i64 64000000, .int .u64 9671406556917033398, .int .u64 25] 37) := by
  have hb : (Lib.bitLen ((63999999 : Int).toNat) : Int) = 26 := by decide
  go_enter Yba.func10, Yba.ntmps10
  go_wp2_with fail
  refine (Yba.bits_Len64 63999999 _ (by omega) (by omega)).mono ?_
  rw [hb]
  rintro e w' ⟨rfl, rfl⟩
  go_wp2_with fail
  refine (div_64000000 _).mono ?_
  rintro e w' ⟨rfl, rfl⟩
  go_wp2_with fail
  exact bodyPost_ret (v := .agg #[.int .i64 64000000, .int .u64 9671406556917033398, .int .u64 25]) (by simp [results, Yba.results10, go_sem]) rfl ⟨rfl, rfl⟩

set_option maxHeartbeats 1000000 in
theorem newDiv_1280000000 (w : World) : Calls Yba.prog 10 #[.int .i64 1280000000] w fun e w' => e = .returned (.agg #[.int .i64 1280000000, .int .u64 15474250491067253437, .int .u64 30]) ∧ w' = w.alloc (.cells #[.int .i64 1280000000, .int .u64 15474250491067253437, .int .u64 30] 37) := by
  have hb : (Lib.bitLen ((1279999999 : Int).toNat) : Int) = 31 := by decide
  go_enter Yba.func10, Yba.ntmps10
  go_wp2_with fail
  refine (Yba.bits_Len64 1279999999 _ (by omega) (by omega)).mono ?_
  rw [hb]
  rintro e w' ⟨rfl, rfl⟩
  go_wp2_with fail
  refine (div_1280000000 _).mono ?_
  rintro e w' ⟨rfl, rfl⟩
  go_wp2_with fail
  exact bodyPost_ret (v := .agg #[.int .i64 1280000000, .int .u64 15474250491067253437, .int .u64 30]) (by simp [results, Yba.results10, go_sem]) rfl ⟨rfl, rfl⟩

set_option maxHeartbeats 1000000 in
theorem newDiv_25600000000 (w : World) : Calls Yba.prog 10 #[.int .i64 25600000000] w fun e w' => e = .returned (.agg #[.int .i64 25600000000, .int .u64 12379400392853802749, .int .u64 34]) ∧ w' = w.alloc (.cells #[.int .i64 25600000000, .int .u64 12379400392853802749, .int .u64 34] 37) := by
  have hb : (Lib.bitLen ((25599999999 : Int).toNat) : Int) = 35 := by decide
  go_enter Yba.func10, Yba.ntmps10
  go_wp2_with fail
  refine (Yba.bits_Len64 25599999999 _ (by omega) (by omega)).mono ?_
  rw [hb]
  rintro e w' ⟨rfl, rfl⟩
  go_wp2_with fail
  refine (div_25600000000 _).mono ?_
  rintro e w' ⟨rfl, rfl⟩
  go_wp2_with fail
  exact bodyPost_ret (v := .agg #[.int .i64 25600000000, .int .u64 12379400392853802749, .int .u64 34]) (by simp [results, Yba.results10, go_sem]) rfl ⟨rfl, rfl⟩

set_option maxHeartbeats 1000000 in
theorem newDiv_512000000000 (w : World) : Calls Yba.prog 10 #[.int .i64 512000000000] w fun e w' => e = .returned (.agg #[.int .i64 512000000000, .int .u64 9903520314283042200, .int .u64 38]) ∧ w' = w.alloc (.cells #[.int .i64 512000000000, .int .u64 9903520314283042200, .int .u64 38] 37) := by
  have hb : (Lib.bitLen ((511999999999 : Int).toNat) : Int) = 39 := by decide
  go_enter Yba.func10, Yba.ntmps10
  go_wp2_with fail
  refine (Yba.bits_Len64 511999999999 _ (by omega) (by omega)).mono ?_
  rw [hb]
  rintro e w' ⟨rfl, rfl⟩
  go_wp2_with fail
  refine (div_512000000000 _).mono ?_
  rintro e w' ⟨rfl, rfl⟩
  go_wp2_with fail
  exact bodyPost_ret (v := .agg #[.int .i64 512000000000, .int .u64 9903520314283042200, .int .u64 38]) (by simp [results, Yba.results10, go_sem]) rfl ⟨rfl, rfl⟩

set_option maxHeartbeats 1000000 in
theorem newDiv_10240000000000 (w : World) : Calls Yba.prog 10 #[.int .i64 10240000000000] w fun e w' => e = .returned (.agg #[.int .i64 10240000000000, .int .u64 15845632502852867519, .int .u64 43]) ∧ w' = w.alloc (.cells #[.int .i64 10240000000000, .int .u64 15845632502852867519, .int .u64 43] 37) := by
  have hb : (Lib.bitLen ((10239999999999 : Int).toNat) : Int) = 44 := by decide
  go_enter Yba.func10, Yba.ntmps10
  go_wp2_with fail
  refine (Yba.bits_Len64 10239999999999 _ (by omega) (by omega)).mono ?_
  rw [hb]
  rintro e w' ⟨rfl, rfl⟩
  go_wp2_with fail
  refine (div_10240000000000 _).mono ?_
  rintro e w' ⟨rfl, rfl⟩
  go_wp2_with fail
  exact bodyPost_ret (v := .agg #[.int .i64 10240000000000, .int .u64 15845632502852867519, .int .u64 43]) (by simp [results, Yba.results10, go_sem]) rfl ⟨rfl, rfl⟩

set_option maxHeartbeats 1000000 in
theorem newDiv_204800000000000 (w : World) : Calls Yba.prog 10 #[.int .i64 204800000000000] w fun e w' => e = .returned (.agg #[.int .i64 204800000000000, .int .u64 12676506002282294015, .int .u64 47]) ∧ w' = w.alloc (.cells #[.int .i64 204800000000000, .int .u64 12676506002282294015, .int .u64 47] 37) := by
  have hb : (Lib.bitLen ((204799999999999 : Int).toNat) : Int) = 48 := by decide
  go_enter Yba.func10, Yba.ntmps10
  go_wp2_with fail
  refine (Yba.bits_Len64 204799999999999 _ (by omega) (by omega)).mono ?_
  rw [hb]
  rintro e w' ⟨rfl, rfl⟩
  go_wp2_with fail
  refine (div_204800000000000 _).mono ?_
  rintro e w' ⟨rfl, rfl⟩
  go_wp2_with fail
  exact bodyPost_ret (v := .agg #[.int .i64 204800000000000, .int .u64 12676506002282294015, .int .u64 47]) (by simp [results, Yba.results10, go_sem]) rfl ⟨rfl, rfl⟩

set_option maxHeartbeats 1000000 in
theorem newDiv_4096000000000000 (w : World) : Calls Yba.prog 10 #[.int .i64 4096000000000000] w fun e w' => e = .returned (.agg #[.int .i64 4096000000000000, .int .u64 10141204801825835212, .int .u64 51]) ∧ w' = w.alloc (.cells #[.int .i64 4096000000000000, .int .u64 10141204801825835212, .int .u64 51] 37) := by
  have hb : (Lib.bitLen ((4095999999999999 : Int).toNat) : Int) = 52 := by decide
  go_enter Yba.func10, Yba.ntmps10
  go_wp2_with fail
  refine (Yba.bits_Len64 4095999999999999 _ (by omega) (by omega)).mono ?_
  rw [hb]
  rintro e w' ⟨rfl, rfl⟩
  go_wp2_with fail
  refine (div_4096000000000000 _).mono ?_
  rintro e w' ⟨rfl, rfl⟩
  go_wp2_with fail
  exact bodyPost_ret (v := .agg #[.int .i64 4096000000000000, .int .u64 10141204801825835212, .int .u64 51]) (by simp [results, Yba.results10, go_sem]) rfl ⟨rfl, rfl⟩

set_option maxHeartbeats 1000000 in
theorem newDiv_81920000000000000 (w : World) : Calls Yba.prog 10 #[.int .i64 81920000000000000] w fun e w' => e = .returned (.agg #[.int .i64 81920000000000000, .int .u64 16225927682921336340, .int .u64 56]) ∧ w' = w.alloc (.cells #[.int .i64 81920000000000000, .int .u64 16225927682921336340, .int .u64 56] 37) := by
  have hb : (Lib.bitLen ((81919999999999999 : Int).toNat) : Int) = 57 := by decide
  go_enter Yba.func10, Yba.ntmps10
  go_wp2_with fail
  refine (Yba.bits_Len64 81919999999999999 _ (by omega) (by omega)).mono ?_
  rw [hb]
  rintro e w' ⟨rfl, rfl⟩
  go_wp2_with fail
  refine (div_81920000000000000 _).mono ?_
  rintro e w' ⟨rfl, rfl⟩
  go_wp2_with fail
  exact bodyPost_ret (v := .agg #[.int .i64 81920000000000000, .int .u64 16225927682921336340, .int .u64 56]) (by simp [results, Yba.results10, go_sem]) rfl ⟨rfl, rfl⟩

set_option maxHeartbeats 1000000 in
theorem newDiv_1638400000000000000 (w : World) : Calls Yba.prog 10 #[.int .i64 1638400000000000000] w fun e w' => e = .returned (.agg #[.int .i64 1638400000000000000, .int .u64 12980742146337069072, .int .u64 60]) ∧ w' = w.alloc (.cells #[.int .i64 1638400000000000000, .int .u64 12980742146337069072, .int .u64 60] 37) := by
  have hb : (Lib.bitLen ((1638399999999999999 : Int).toNat) : Int) = 61 := by decide
  go_enter Yba.func10, Yba.ntmps10
  go_wp2_with fail
  refine (Yba.bits_Len64 1638399999999999999 _ (by omega) (by omega)).mono ?_
  rw [hb]
  rintro e w' ⟨rfl, rfl⟩
  go_wp2_with fail
  refine (div_1638400000000000000 _).mono ?_
  rintro e w' ⟨rfl, rfl⟩
  go_wp2_with fail
  exact bodyPost_ret (v := .agg #[.int .i64 1638400000000000000, .int .u64 12980742146337069072, .int .u64 60]) (by simp [results, Yba.results10, go_sem]) rfl ⟨rfl, rfl⟩

end Go.Proofs.Ybulkckyc
