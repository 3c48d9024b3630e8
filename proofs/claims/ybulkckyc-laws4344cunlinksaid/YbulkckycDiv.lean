import Derived.Test.YbulkckycRows
import Derived.Test.YbulkckycShelf
import Derived.WalkKit
import Derived.LoopN
namespace Go.Proofs.Ybulkckyc
open Go.RowKit

set_option maxHeartbeats 1000000 in
set_option maxRecDepth 10000 in
theorem div_1000000 (w : World) : Calls Yba.prog 20 #[.int .u64 524287, .int .u64 18446744073709551615, .int .u64 1000000] w fun e w' => e = .returned (.tuple #[.int .u64 9671406556917033397, .int .u64 649407]) ∧ w' = w := by
  have hb : ((64 : Int) - (Lib.bitLen ((1000000 : Int).toNat) : Int)) = 44 := by decide
  have g0 : bits BinOp.and IntKind.u64 17592186044416000000 4294967295 = 0 := by kernel_rfl
  have g1 : bits BinOp.or IntKind.u64 9223354444668731392 17592186044415 = 9223372036854775807 := by kernel_rfl
  have g2 : IntKind.u64.wrap (324518553658426726765563834531840) = 18446726481523507200 := by kernel_rfl
  have g3 : bits BinOp.and IntKind.u64 18446726481523507200 4294967295 = 0 := by kernel_rfl
  have g4 : IntKind.u64.wrap (39614081257132168792477007872) = 18446744069414584320 := by kernel_rfl
  have g5 : IntKind.u64.wrap (39614081245077158494208000000) = 6391733771145576448 := by kernel_rfl
  have g6 : IntKind.u64.wrap (51775875002455320702130061312) = 18446726481523507200 := by kernel_rfl
  have g7 : IntKind.u64.wrap (51775874991030831939584000000) = 7022237718977445888 := by kernel_rfl
  go_enter Yba.func20, Yba.ntmps20
  go_wp2_with fail
  refine (Yba.bits_LeadingZeros64 1000000 w (by omega) (by omega)).mono ?_
  rw [hb]
  rintro e w' ⟨rfl, rfl⟩
  go_wp2_with fail
  refine wp_loop_rounds 1 ?_
  rw [rounds_succ]
  go_wp2_with fail
  refine wp_loop_rounds 1 ?_
  rw [rounds_succ]
  go_wp2_with fail
  go_ret2
  exact ⟨rfl, rfl⟩

set_option maxHeartbeats 1000000 in
set_option maxRecDepth 10000 in
theorem div_20 (w : World) : Calls Yba.prog 20 #[.int .u64 15, .int .u64 18446744073709551615, .int .u64 20] w fun e w' => e = .returned (.tuple #[.int .u64 14757395258967641292, .int .u64 15]) ∧ w' = w := by
  have hb : ((64 : Int) - (Lib.bitLen ((20 : Int).toNat) : Int)) = 59 := by decide
  have g0 : bits BinOp.and IntKind.u64 11529215046068469760 4294967295 = 0 := by kernel_rfl
  have g1 : bits BinOp.or IntKind.u64 8646911284551352320 576460752303423487 = 9223372036854775807 := by kernel_rfl
  have g2 : IntKind.u64.wrap (10633823966279326982653995729939333120) = 17870283321406128128 := by kernel_rfl
  have g3 : bits BinOp.and IntKind.u64 17870283321406128128 4294967295 = 0 := by kernel_rfl
  have g4 : IntKind.u64.wrap (39614081257132168792477007872) = 18446744069414584320 := by kernel_rfl
  have g5 : IntKind.u64.wrap (39614081247908796759917199360) = 9223372036854775808 := by kernel_rfl
  have g6 : IntKind.u64.wrap (39614081256555708044468551680) = 17870283321406128128 := by kernel_rfl
  go_enter Yba.func20, Yba.ntmps20
  go_wp2_with fail
  refine (Yba.bits_LeadingZeros64 20 w (by omega) (by omega)).mono ?_
  rw [hb]
  rintro e w' ⟨rfl, rfl⟩
  go_wp2_with fail
  refine wp_loop_rounds 1 ?_
  rw [rounds_succ]
  go_wp2_with fail
  refine wp_loop_rounds 1 ?_
  rw [rounds_succ]
  go_wp2_with fail
  go_ret2
  exact ⟨rfl, rfl⟩

set_option maxHeartbeats 1000000 in
set_option maxRecDepth 10000 in
theorem div_400 (w : World) : Calls Yba.prog 20 #[.int .u64 255, .int .u64 18446744073709551615, .int .u64 400] w fun e w' => e = .returned (.tuple #[.int .u64 11805916207174113034, .int .u64 95]) ∧ w' = w := by
  have hb : ((64 : Int) - (Lib.bitLen ((400 : Int).toNat) : Int)) = 55 := by decide
  have g0 : bits BinOp.and IntKind.u64 14411518807585587200 4294967295 = 0 := by kernel_rfl
  have g1 : bits BinOp.or IntKind.u64 9187343239835811840 36028797018963967 = 9223372036854775807 := by kernel_rfl
  have g2 : IntKind.u64.wrap (664613997892457936415874733121208320) = 18410715276690587648 := by kernel_rfl
  have g3 : bits BinOp.and IntKind.u64 18410715276690587648 4294967295 = 0 := by kernel_rfl
  have g4 : IntKind.u64.wrap (39614081257132168792477007872) = 18446744069414584320 := by kernel_rfl
  have g5 : IntKind.u64.wrap (39614081250791100521434316800) = 12105675798371893248 := by kernel_rfl
  have g6 : IntKind.u64.wrap (27234680864242337250761768960) = 18410715276690587648 := by kernel_rfl
  have g7 : IntKind.u64.wrap (27234680860819601533960192000) = 14987979559889010688 := by kernel_rfl
  go_enter Yba.func20, Yba.ntmps20
  go_wp2_with fail
  refine (Yba.bits_LeadingZeros64 400 w (by omega) (by omega)).mono ?_
  rw [hb]
  rintro e w' ⟨rfl, rfl⟩
  go_wp2_with fail
  refine wp_loop_rounds 1 ?_
  rw [rounds_succ]
  go_wp2_with fail
  refine wp_loop_rounds 1 ?_
  rw [rounds_succ]
  go_wp2_with fail
  go_ret2
  exact ⟨rfl, rfl⟩

set_option maxHeartbeats 1000000 in
set_option maxRecDepth 10000 in
theorem div_8000 (w : World) : Calls Yba.prog 20 #[.int .u64 4095, .int .u64 18446744073709551615, .int .u64 8000] w fun e w' => e = .returned (.tuple #[.int .u64 9444732965739290427, .int .u64 3135]) ∧ w' = w := by
  have hb : ((64 : Int) - (Lib.bitLen ((8000 : Int).toNat) : Int)) = 51 := by decide
  have g0 : bits BinOp.and IntKind.u64 18014398509481984000 4294967295 = 0 := by kernel_rfl
  have g1 : bits BinOp.or IntKind.u64 9221120237041090560 2251799813685247 = 9223372036854775807 := by kernel_rfl
  have g2 : IntKind.u64.wrap (41538374868278621025992170820075520) = 18444492273895866368 := by kernel_rfl
  have g3 : bits BinOp.and IntKind.u64 18444492273895866368 4294967295 = 0 := by kernel_rfl
  have g4 : IntKind.u64.wrap (39614081257132168792477007872) = 18446744069414584320 := by kernel_rfl
  have g5 : IntKind.u64.wrap (39614081247188220819537920000) = 8502796096475496448 := by kernel_rfl
  have g6 : IntKind.u64.wrap (42708931355343367684206100480) = 18444492273895866368 := by kernel_rfl
  have g7 : IntKind.u64.wrap (42708931348283975268302848000) = 11385099857992613888 := by kernel_rfl
  go_enter Yba.func20, Yba.ntmps20
  go_wp2_with fail
  refine (Yba.bits_LeadingZeros64 8000 w (by omega) (by omega)).mono ?_
  rw [hb]
  rintro e w' ⟨rfl, rfl⟩
  go_wp2_with fail
  refine wp_loop_rounds 1 ?_
  rw [rounds_succ]
  go_wp2_with fail
  refine wp_loop_rounds 1 ?_
  rw [rounds_succ]
  go_wp2_with fail
  go_ret2
  exact ⟨rfl, rfl⟩

set_option maxHeartbeats 1000000 in
set_option maxRecDepth 10000 in
theorem div_160000 (w : World) : Calls Yba.prog 20 #[.int .u64 131071, .int .u64 18446744073709551615, .int .u64 160000] w fun e w' => e = .returned (.tuple #[.int .u64 15111572745182864683, .int .u64 132351]) ∧ w' = w := by
  have hb : ((64 : Int) - (Lib.bitLen ((160000 : Int).toNat) : Int)) = 46 := by decide
  have g0 : bits BinOp.and IntKind.u64 11258999068426240000 4294967295 = 0 := by kernel_rfl
  have g1 : bits BinOp.or IntKind.u64 9223301668110598144 70368744177663 = 9223372036854775807 := by kernel_rfl
  have g2 : IntKind.u64.wrap (1298074214633706907062255338127360) = 18446673704965373952 := by kernel_rfl
  have g3 : bits BinOp.and IntKind.u64 18446673704965373952 4294967295 = 0 := by kernel_rfl
  have g4 : IntKind.u64.wrap (39614081257132168792477007872) = 18446744069414584320 := by kernel_rfl
  have g5 : IntKind.u64.wrap (39614081247188220819537920000) = 8502796096475496448 := by kernel_rfl
  have g6 : IntKind.u64.wrap (42708931355345549115275608064) = 18446673704965373952 := by kernel_rfl
  have g7 : IntKind.u64.wrap (42708931346032175454617600000) = 9133300044307365888 := by kernel_rfl
  go_enter Yba.func20, Yba.ntmps20
  go_wp2_with fail
  refine (Yba.bits_LeadingZeros64 160000 w (by omega) (by omega)).mono ?_
  rw [hb]
  rintro e w' ⟨rfl, rfl⟩
  go_wp2_with fail
  refine wp_loop_rounds 1 ?_
  rw [rounds_succ]
  go_wp2_with fail
  refine wp_loop_rounds 1 ?_
  rw [rounds_succ]
  go_wp2_with fail
  go_ret2
  exact ⟨rfl, rfl⟩

set_option maxHeartbeats 1000000 in
set_option maxRecDepth 10000 in
theorem div_3200000 (w : World) : Calls Yba.prog 20 #[.int .u64 2097151, .int .u64 18446744073709551615, .int .u64 3200000] w fun e w' => e = .returned (.tuple #[.int .u64 12089258196146291747, .int .u64 197631]) ∧ w' = w := by
  have hb : ((64 : Int) - (Lib.bitLen ((3200000 : Int).toNat) : Int)) = 42 := by decide
  have g0 : bits BinOp.and IntKind.u64 14073748835532800000 4294967295 = 0 := by kernel_rfl
  have g1 : bits BinOp.or IntKind.u64 9223367638808264704 4398046511103 = 9223372036854775807 := by kernel_rfl
  have g2 : IntKind.u64.wrap (81129638414606681691390958632960) = 18446739675663040512 := by kernel_rfl
  have g3 : bits BinOp.and IntKind.u64 18446739675663040512 4294967295 = 0 := by kernel_rfl
  have g4 : IntKind.u64.wrap (39614081257132168792477007872) = 18446744069414584320 := by kernel_rfl
  have g5 : IntKind.u64.wrap (39614081255632470120857600000) = 16947045397795176448 := by kernel_rfl
  have g6 : IntKind.u64.wrap (6441156766906739844787994624) = 18446739675663040512 := by kernel_rfl
  have g7 : IntKind.u64.wrap (6441156766037549514752000000) = 17577549345627045888 := by kernel_rfl
  go_enter Yba.func20, Yba.ntmps20
  go_wp2_with fail
  refine (Yba.bits_LeadingZeros64 3200000 w (by omega) (by omega)).mono ?_
  rw [hb]
  rintro e w' ⟨rfl, rfl⟩
  go_wp2_with fail
  refine wp_loop_rounds 1 ?_
  rw [rounds_succ]
  go_wp2_with fail
  refine wp_loop_rounds 1 ?_
  rw [rounds_succ]
  go_wp2_with fail
  go_ret2
  exact ⟨rfl, rfl⟩

set_option maxHeartbeats 1000000 in
set_option maxRecDepth 10000 in
theorem div_64000000 (w : World) : Calls Yba.prog 20 #[.int .u64 33554431, .int .u64 18446744073709551615, .int .u64 64000000] w fun e w' => e = .returned (.tuple #[.int .u64 9671406556917033397, .int .u64 41562111]) ∧ w' = w := by
  have hb : ((64 : Int) - (Lib.bitLen ((64000000 : Int).toNat) : Int)) = 38 := by decide
  have g0 : bits BinOp.and IntKind.u64 17592186044416000000 4294967295 = 0 := by kernel_rfl
  have g1 : bits BinOp.or IntKind.u64 9223371761976868864 274877906943 = 9223372036854775807 := by kernel_rfl
  have g2 : IntKind.u64.wrap (5070602400912917605711934914560) = 18446743798831644672 := by kernel_rfl
  have g3 : bits BinOp.and IntKind.u64 18446743798831644672 4294967295 = 0 := by kernel_rfl
  have g4 : IntKind.u64.wrap (39614081257132168792477007872) = 18446744069414584320 := by kernel_rfl
  have g5 : IntKind.u64.wrap (39614081245077158494208000000) = 6391733771145576448 := by kernel_rfl
  have g6 : IntKind.u64.wrap (51775875002455338019438198784) = 18446743798831644672 := by kernel_rfl
  have g7 : IntKind.u64.wrap (51775874991030831939584000000) = 7022237718977445888 := by kernel_rfl
  go_enter Yba.func20, Yba.ntmps20
  go_wp2_with fail
  refine (Yba.bits_LeadingZeros64 64000000 w (by omega) (by omega)).mono ?_
  rw [hb]
  rintro e w' ⟨rfl, rfl⟩
  go_wp2_with fail
  refine wp_loop_rounds 1 ?_
  rw [rounds_succ]
  go_wp2_with fail
  refine wp_loop_rounds 1 ?_
  rw [rounds_succ]
  go_wp2_with fail
  go_ret2
  exact ⟨rfl, rfl⟩

set_option maxHeartbeats 1000000 in
set_option maxRecDepth 10000 in
theorem div_1280000000 (w : World) : Calls Yba.prog 20 #[.int .u64 1073741823, .int .u64 18446744073709551615, .int .u64 1280000000] w fun e w' => e = .returned (.tuple #[.int .u64 15474250491067253436, .int .u64 305987583]) ∧ w' = w := by
  have hb : ((64 : Int) - (Lib.bitLen ((1280000000 : Int).toNat) : Int)) = 33 := by decide
  have g0 : bits BinOp.and IntKind.u64 10995116277760000000 4294967295 = 0 := by kernel_rfl
  have g1 : bits BinOp.or IntKind.u64 9223372028264841216 8589934591 = 9223372036854775807 := by kernel_rfl
  have g2 : IntKind.u64.wrap (158456325028528675178497966080) = 18446744065119617024 := by kernel_rfl
  have g3 : bits BinOp.and IntKind.u64 18446744065119617024 4294967295 = 0 := by kernel_rfl
  have g4 : IntKind.u64.wrap (39614081257132168792477007872) = 18446744069414584320 := by kernel_rfl
  have g5 : IntKind.u64.wrap (39614081247276181749760000000) = 8590757026697576448 := by kernel_rfl
  have g6 : IntKind.u64.wrap (42331142036716047858334171136) = 18446744065119617024 := by kernel_rfl
  have g7 : IntKind.u64.wrap (42331142034087634534400000000) = 15818330741185445888 := by kernel_rfl
  go_enter Yba.func20, Yba.ntmps20
  go_wp2_with fail
  refine (Yba.bits_LeadingZeros64 1280000000 w (by omega) (by omega)).mono ?_
  rw [hb]
  rintro e w' ⟨rfl, rfl⟩
  go_wp2_with fail
  refine wp_loop_rounds 1 ?_
  rw [rounds_succ]
  go_wp2_with fail
  refine wp_loop_rounds 1 ?_
  rw [rounds_succ]
  go_wp2_with fail
  go_ret2
  exact ⟨rfl, rfl⟩

set_option maxHeartbeats 1000000 in
set_option maxRecDepth 10000 in
theorem div_25600000000 (w : World) : Calls Yba.prog 20 #[.int .u64 17179869183, .int .u64 18446744073709551615, .int .u64 25600000000] w fun e w' => e = .returned (.tuple #[.int .u64 12379400392853802748, .int .u64 25375801343]) ∧ w' = w := by
  have hb : ((64 : Int) - (Lib.bitLen ((25600000000 : Int).toNat) : Int)) = 29 := by decide
  have g0 : bits BinOp.and IntKind.u64 13743895347200000000 4294967295 = 0 := by kernel_rfl
  have g1 : bits BinOp.or IntKind.u64 9223372036317904896 536870911 = 9223372036854775807 := by kernel_rfl
  have g2 : IntKind.u64.wrap (9903520314283042198656122880) = 18446744073172680704 := by kernel_rfl
  have g3 : bits BinOp.and IntKind.u64 18446744073172680704 4294967295 = 3758096384 := by kernel_rfl
  have g4 : IntKind.u64.wrap (39614081257132168792477007872) = 18446744069414584320 := by kernel_rfl
  have g5 : IntKind.u64.wrap (39614081250024960819200000000) = 11339536096137576448 := by kernel_rfl
  have g6 : IntKind.u64.wrap (30525225829541934828389138432) = 18446744069414584320 := by kernel_rfl
  have g7 : IntKind.u64.wrap (30525225815918405222400000000) = 4823214463425445888 := by kernel_rfl
  go_enter Yba.func20, Yba.ntmps20
  go_wp2_with fail
  refine (Yba.bits_LeadingZeros64 25600000000 w (by omega) (by omega)).mono ?_
  rw [hb]
  rintro e w' ⟨rfl, rfl⟩
  go_wp2_with fail
  refine wp_loop_rounds 1 ?_
  rw [rounds_succ]
  go_wp2_with fail
  refine wp_loop_rounds 1 ?_
  rw [rounds_succ]
  go_wp2_with fail
  go_ret2
  exact ⟨rfl, rfl⟩

set_option maxHeartbeats 1000000 in
set_option maxRecDepth 10000 in
theorem div_512000000000 (w : World) : Calls Yba.prog 20 #[.int .u64 274877906943, .int .u64 18446744073709551615, .int .u64 512000000000] w fun e w' => e = .returned (.tuple #[.int .u64 9903520314283042199, .int .u64 98812821503]) ∧ w' = w := by
  have hb : ((64 : Int) - (Lib.bitLen ((512000000000 : Int).toNat) : Int)) = 25 := by decide
  have g0 : bits BinOp.and IntKind.u64 17179869184000000000 4294967295 = 0 := by kernel_rfl
  have g1 : bits BinOp.or IntKind.u64 9223372036821221376 33554431 = 9223372036854775807 := by kernel_rfl
  have g2 : IntKind.u64.wrap (618970019642690137416007680) = 18446744073675997184 := by kernel_rfl
  have g3 : bits BinOp.and IntKind.u64 18446744073675997184 4294967295 = 4261412864 := by kernel_rfl
  have g4 : IntKind.u64.wrap (39614081257132168792477007872) = 18446744069414584320 := by kernel_rfl
  have g5 : IntKind.u64.wrap (39614081253460934656000000000) = 14775509932937576448 := by kernel_rfl
  have g6 : IntKind.u64.wrap (15767830570574293535589138432) = 18446744069414584320 := by kernel_rfl
  have g7 : IntKind.u64.wrap (15767830567258685440000000000) = 15131135973825445888 := by kernel_rfl
  go_enter Yba.func20, Yba.ntmps20
  go_wp2_with fail
  refine (Yba.bits_LeadingZeros64 512000000000 w (by omega) (by omega)).mono ?_
  rw [hb]
  rintro e w' ⟨rfl, rfl⟩
  go_wp2_with fail
  refine wp_loop_rounds 1 ?_
  rw [rounds_succ]
  go_wp2_with fail
  refine wp_loop_rounds 1 ?_
  rw [rounds_succ]
  go_wp2_with fail
  go_ret2
  exact ⟨rfl, rfl⟩

set_option maxHeartbeats 1000000 in
set_option maxRecDepth 10000 in
theorem div_10240000000000 (w : World) : Calls Yba.prog 20 #[.int .u64 8796093022207, .int .u64 18446744073709551615, .int .u64 10240000000000] w fun e w' => e = .returned (.tuple #[.int .u64 15845632502852867518, .int .u64 7258010288127]) ∧ w' = w := by
  have hb : ((64 : Int) - (Lib.bitLen ((10240000000000 : Int).toNat) : Int)) = 20 := by decide
  have g0 : bits BinOp.and IntKind.u64 10737418240000000000 4294967295 = 0 := by kernel_rfl
  have g1 : bits BinOp.or IntKind.u64 9223372036853727232 1048575 = 9223372036854775807 := by kernel_rfl
  have g2 : IntKind.u64.wrap (19342813113834066794250240) = 18446744073708503040 := by kernel_rfl
  have g3 : bits BinOp.and IntKind.u64 18446744073708503040 4294967295 = 4293918720 := by kernel_rfl
  have g4 : IntKind.u64.wrap (39614081257132168792477007872) = 18446744069414584320 := by kernel_rfl
  have g5 : IntKind.u64.wrap (39614081249165967360000000000) = 10480542636937576448 := by kernel_rfl
  have g6 : IntKind.u64.wrap (34214574644283845151589138432) = 18446744069414584320 := by kernel_rfl
  have g7 : IntKind.u64.wrap (34214574636673269760000000000) = 10836168677825445888 := by kernel_rfl
  go_enter Yba.func20, Yba.ntmps20
  go_wp2_with fail
  refine (Yba.bits_LeadingZeros64 10240000000000 w (by omega) (by omega)).mono ?_
  rw [hb]
  rintro e w' ⟨rfl, rfl⟩
  go_wp2_with fail
  refine wp_loop_rounds 1 ?_
  rw [rounds_succ]
  go_wp2_with fail
  refine wp_loop_rounds 1 ?_
  rw [rounds_succ]
  go_wp2_with fail
  go_ret2
  exact ⟨rfl, rfl⟩

set_option maxHeartbeats 1000000 in
set_option maxRecDepth 10000 in
theorem div_204800000000000 (w : World) : Calls Yba.prog 20 #[.int .u64 140737488355327, .int .u64 18446744073709551615, .int .u64 204800000000000] w fun e w' => e = .returned (.tuple #[.int .u64 12676506002282294014, .int .u64 198048164610047]) ∧ w' = w := by
  have hb : ((64 : Int) - (Lib.bitLen ((204800000000000 : Int).toNat) : Int)) = 16 := by decide
  have g0 : bits BinOp.and IntKind.u64 13421772800000000000 4294967295 = 0 := by kernel_rfl
  have g1 : bits BinOp.or IntKind.u64 9223372036854710272 65535 = 9223372036854775807 := by kernel_rfl
  have g2 : IntKind.u64.wrap (1208925819614629174640640) = 18446744073709486080 := by kernel_rfl
  have g3 : bits BinOp.and IntKind.u64 18446744073709486080 4294967295 = 4294901760 := by kernel_rfl
  have g4 : IntKind.u64.wrap (39614081257132168792477007872) = 18446744069414584320 := by kernel_rfl
  have g5 : IntKind.u64.wrap (39614081246481612800000000000) = 7796188076937576448 := by kernel_rfl
  have g6 : IntKind.u64.wrap (45743789690352314911589138432) = 18446744069414584320 := by kernel_rfl
  have g7 : IntKind.u64.wrap (45743789677373030400000000000) = 5467459557825445888 := by kernel_rfl
  go_enter Yba.func20, Yba.ntmps20
  go_wp2_with fail
  refine (Yba.bits_LeadingZeros64 204800000000000 w (by omega) (by omega)).mono ?_
  rw [hb]
  rintro e w' ⟨rfl, rfl⟩
  go_wp2_with fail
  refine wp_loop_rounds 1 ?_
  rw [rounds_succ]
  go_wp2_with fail
  refine wp_loop_rounds 1 ?_
  rw [rounds_succ]
  go_wp2_with fail
  go_ret2
  exact ⟨rfl, rfl⟩

set_option maxHeartbeats 1000000 in
set_option maxRecDepth 10000 in
theorem div_4096000000000000 (w : World) : Calls Yba.prog 20 #[.int .u64 2251799813685247, .int .u64 18446744073709551615, .int .u64 4096000000000000] w fun e w' => e = .returned (.tuple #[.int .u64 10141204801825835211, .int .u64 3987970633760767]) ∧ w' = w := by
  have hb : ((64 : Int) - (Lib.bitLen ((4096000000000000 : Int).toNat) : Int)) = 12 := by decide
  have g0 : bits BinOp.and IntKind.u64 16777216000000000000 4294967295 = 0 := by kernel_rfl
  have g1 : bits BinOp.or IntKind.u64 9223372036854771712 4095 = 9223372036854775807 := by kernel_rfl
  have g2 : IntKind.u64.wrap (75557863725914323415040) = 18446744073709547520 := by kernel_rfl
  have g3 : bits BinOp.and IntKind.u64 18446744073709547520 4294967295 = 4294963200 := by kernel_rfl
  have g4 : IntKind.u64.wrap (39614081257132168792477007872) = 18446744069414584320 := by kernel_rfl
  have g5 : IntKind.u64.wrap (39614081249837056000000000000) = 11151631276937576448 := by kernel_rfl
  have g6 : IntKind.u64.wrap (31332270882766727711589138432) = 18446744069414584320 := by kernel_rfl
  have g7 : IntKind.u64.wrap (31332270866432000000000000000) = 2112016357825445888 := by kernel_rfl
  go_enter Yba.func20, Yba.ntmps20
  go_wp2_with fail
  refine (Yba.bits_LeadingZeros64 4096000000000000 w (by omega) (by omega)).mono ?_
  rw [hb]
  rintro e w' ⟨rfl, rfl⟩
  go_wp2_with fail
  refine wp_loop_rounds 1 ?_
  rw [rounds_succ]
  go_wp2_with fail
  refine wp_loop_rounds 1 ?_
  rw [rounds_succ]
  go_wp2_with fail
  go_ret2
  exact ⟨rfl, rfl⟩

set_option maxHeartbeats 1000000 in
set_option maxRecDepth 10000 in
theorem div_81920000000000000 (w : World) : Calls Yba.prog 20 #[.int .u64 72057594037927935, .int .u64 18446744073709551615, .int .u64 81920000000000000] w fun e w' => e = .returned (.tuple #[.int .u64 16225927682921336339, .int .u64 12927060280344575]) ∧ w' = w := by
  have hb : ((64 : Int) - (Lib.bitLen ((81920000000000000 : Int).toNat) : Int)) = 7 := by decide
  have g0 : bits BinOp.and IntKind.u64 10485760000000000000 4294967295 = 0 := by kernel_rfl
  have g1 : bits BinOp.or IntKind.u64 9223372036854775680 127 = 9223372036854775807 := by kernel_rfl
  have g2 : IntKind.u64.wrap (2361183241434822606720) = 18446744073709551488 := by kernel_rfl
  have g3 : bits BinOp.and IntKind.u64 18446744073709551488 4294967295 = 4294967168 := by kernel_rfl
  have g4 : IntKind.u64.wrap (39614081257132168792477007872) = 18446744069414584320 := by kernel_rfl
  have g5 : IntKind.u64.wrap (39614081254031360000000000000) = 15345935276937576448 := by kernel_rfl
  have g6 : IntKind.u64.wrap (13317872373284743711589138432) = 18446744069414584320 := by kernel_rfl
  have g7 : IntKind.u64.wrap (13317872371630080000000000000) = 16792080357825445888 := by kernel_rfl
  go_enter Yba.func20, Yba.ntmps20
  go_wp2_with fail
  refine (Yba.bits_LeadingZeros64 81920000000000000 w (by omega) (by omega)).mono ?_
  rw [hb]
  rintro e w' ⟨rfl, rfl⟩
  go_wp2_with fail
  refine wp_loop_rounds 1 ?_
  rw [rounds_succ]
  go_wp2_with fail
  refine wp_loop_rounds 1 ?_
  rw [rounds_succ]
  go_wp2_with fail
  go_ret2
  exact ⟨rfl, rfl⟩

set_option maxHeartbeats 1000000 in
set_option maxRecDepth 10000 in
theorem div_1638400000000000000 (w : World) : Calls Yba.prog 20 #[.int .u64 1152921504606846975, .int .u64 18446744073709551615, .int .u64 1638400000000000000] w fun e w' => e = .returned (.tuple #[.int .u64 12980742146337069071, .int .u64 534512964485513215]) ∧ w' = w := by
  have hb : ((64 : Int) - (Lib.bitLen ((1638400000000000000 : Int).toNat) : Int)) = 3 := by decide
  have g0 : bits BinOp.and IntKind.u64 13107200000000000000 4294967295 = 2147483648 := by kernel_rfl
  have g1 : bits BinOp.or IntKind.u64 9223372036854775800 7 = 9223372036854775807 := by kernel_rfl
  have g2 : IntKind.u64.wrap (147573952589676412920) = 18446744073709551608 := by kernel_rfl
  have g3 : bits BinOp.and IntKind.u64 18446744073709551608 4294967295 = 4294967288 := by kernel_rfl
  have g4 : IntKind.u64.wrap (39614081257132168792477007872) = 18446744069414584320 := by kernel_rfl
  have g5 : IntKind.u64.wrap (39614081256652800000000000000) = 17967375276937576448 := by kernel_rfl
  have g6 : IntKind.u64.wrap (2058873304858503711589138432) = 9223372032559808512 := by kernel_rfl
  have g7 : IntKind.u64.wrap (2058873300582400000000000000) = 4947268320970670080 := by kernel_rfl
  go_enter Yba.func20, Yba.ntmps20
  go_wp2_with fail
  refine (Yba.bits_LeadingZeros64 1638400000000000000 w (by omega) (by omega)).mono ?_
  rw [hb]
  rintro e w' ⟨rfl, rfl⟩
  go_wp2_with fail
  refine wp_loop_rounds 1 ?_
  rw [rounds_succ]
  go_wp2_with fail
  refine wp_loop_rounds 1 ?_
  rw [rounds_succ]
  go_wp2_with fail
  go_ret2
  exact ⟨rfl, rfl⟩

end Go.Proofs.Ybulkckyc
