/- SizeOf, MaxOf and what is built of them: constants. -/
import Derived.Test.YtgomeiepiajpeaaGreatQ0
namespace Go.Proofs.YtgomeiepiajpeaaGreat.Q
open Go.RowKit Go.Proofs.YtgomeiepiajpeaaGreatW.PrintWords Go.Proofs.YtgomeiepiajpeaaGreatW.PrintLast Go.Proofs.YtgomeiepiajpeaaGreatW.PrintMore
set_option linter.unusedVariables false
set_option linter.unusedSimpArgs false
set_option maxHeartbeats 1000000 in
set_option maxRecDepth 100000 in
theorem con66 (w : World) : Calls Tryz.prog 66 #[] w fun e w' => e = .returned (.int .u64 4) ∧ w' = w := by
  go_enter Tryz.func66, Tryz.ntmps66
  go_wp2
  go_ret
  first | exact ⟨rfl, rfl⟩ | exact ⟨by kernel_rfl, rfl⟩
set_option maxHeartbeats 1000000 in
set_option maxRecDepth 100000 in
theorem con67 (w : World) : Calls Tryz.prog 67 #[] w fun e w' => e = .returned (.int .u64 1) ∧ w' = w := by
  go_enter Tryz.func67, Tryz.ntmps67
  go_wp2
  go_ret
  first | exact ⟨rfl, rfl⟩ | exact ⟨by kernel_rfl, rfl⟩
set_option maxHeartbeats 1000000 in
set_option maxRecDepth 100000 in
theorem con70 (w : World) : Calls Tryz.prog 70 #[] w fun e w' => e = .returned (.int .u64 2) ∧ w' = w := by
  go_enter Tryz.func70, Tryz.ntmps70
  go_wp2
  go_ret
  first | exact ⟨rfl, rfl⟩ | exact ⟨by kernel_rfl, rfl⟩
set_option maxHeartbeats 1000000 in
set_option maxRecDepth 100000 in
theorem con72 (w : World) : Calls Tryz.prog 72 #[] w fun e w' => e = .returned (.int .u64 8) ∧ w' = w := by
  go_enter Tryz.func72, Tryz.ntmps72
  go_wp2
  go_ret
  first | exact ⟨rfl, rfl⟩ | exact ⟨by kernel_rfl, rfl⟩
set_option maxHeartbeats 1000000 in
set_option maxRecDepth 100000 in
theorem con74 (w : World) : Calls Tryz.prog 74 #[] w fun e w' => e = .returned (.int .u64 1) ∧ w' = w := by
  go_enter Tryz.func74, Tryz.ntmps74
  go_wp2
  go_ret
  first | exact ⟨rfl, rfl⟩ | exact ⟨by kernel_rfl, rfl⟩
set_option maxHeartbeats 1000000 in
set_option maxRecDepth 100000 in
theorem con76 (w : World) : Calls Tryz.prog 76 #[] w fun e w' => e = .returned (.int .u64 2) ∧ w' = w := by
  go_enter Tryz.func76, Tryz.ntmps76
  go_wp2
  go_ret
  first | exact ⟨rfl, rfl⟩ | exact ⟨by kernel_rfl, rfl⟩
set_option maxHeartbeats 1000000 in
set_option maxRecDepth 100000 in
theorem con78 (w : World) : Calls Tryz.prog 78 #[] w fun e w' => e = .returned (.int .u64 4) ∧ w' = w := by
  go_enter Tryz.func78, Tryz.ntmps78
  go_wp2
  go_ret
  first | exact ⟨rfl, rfl⟩ | exact ⟨by kernel_rfl, rfl⟩
set_option maxHeartbeats 1000000 in
set_option maxRecDepth 100000 in
theorem con80 (w : World) : Calls Tryz.prog 80 #[] w fun e w' => e = .returned (.int .u64 8) ∧ w' = w := by
  go_enter Tryz.func80, Tryz.ntmps80
  go_wp2
  go_ret
  first | exact ⟨rfl, rfl⟩ | exact ⟨by kernel_rfl, rfl⟩
set_option maxHeartbeats 1000000 in
set_option maxRecDepth 100000 in
theorem con68 (w : World) : Calls Tryz.prog 68 #[] w fun e w' => e = .returned (.int .u8 255) ∧ w' = w := by
  go_enter Tryz.func68, Tryz.ntmps68
  go_wp2_with (first | (go_at_call 67; refine (con67 _).mono ?_; rintro e w1 ⟨rfl, hw1⟩; subst w1))
  go_ret
  first | exact ⟨rfl, rfl⟩ | exact ⟨by kernel_rfl, rfl⟩
set_option maxHeartbeats 1000000 in
set_option maxRecDepth 100000 in
theorem con69 (w : World) : Calls Tryz.prog 69 #[] w fun e w' => e = .returned (.int .u32 4294967295) ∧ w' = w := by
  go_enter Tryz.func69, Tryz.ntmps69
  go_wp2_with (first | (go_at_call 66; refine (con66 _).mono ?_; rintro e w1 ⟨rfl, hw1⟩; subst w1))
  go_ret
  first | exact ⟨rfl, rfl⟩ | exact ⟨by kernel_rfl, rfl⟩
set_option maxHeartbeats 1000000 in
set_option maxRecDepth 100000 in
theorem con71 (w : World) : Calls Tryz.prog 71 #[] w fun e w' => e = .returned (.int .u16 65535) ∧ w' = w := by
  go_enter Tryz.func71, Tryz.ntmps71
  go_wp2_with (first | (go_at_call 70; refine (con70 _).mono ?_; rintro e w1 ⟨rfl, hw1⟩; subst w1))
  go_ret
  first | exact ⟨rfl, rfl⟩ | exact ⟨by kernel_rfl, rfl⟩
set_option maxHeartbeats 1000000 in
set_option maxRecDepth 100000 in
theorem con73 (w : World) : Calls Tryz.prog 73 #[] w fun e w' => e = .returned (.int .u64 18446744073709551615) ∧ w' = w := by
  go_enter Tryz.func73, Tryz.ntmps73
  go_wp2_with (first | (go_at_call 72; refine (con72 _).mono ?_; rintro e w1 ⟨rfl, hw1⟩; subst w1))
  go_ret
  first | exact ⟨rfl, rfl⟩ | exact ⟨by kernel_rfl, rfl⟩
set_option maxHeartbeats 1000000 in
set_option maxRecDepth 100000 in
theorem con75 (w : World) : Calls Tryz.prog 75 #[] w fun e w' => e = .returned (.int .i8 127) ∧ w' = w := by
  go_enter Tryz.func75, Tryz.ntmps75
  go_wp2_with (first | (go_at_call 74; refine (con74 _).mono ?_; rintro e w1 ⟨rfl, hw1⟩; subst w1))
  go_ret
  first | exact ⟨rfl, rfl⟩ | exact ⟨by kernel_rfl, rfl⟩
set_option maxHeartbeats 1000000 in
set_option maxRecDepth 100000 in
theorem con77 (w : World) : Calls Tryz.prog 77 #[] w fun e w' => e = .returned (.int .i16 32767) ∧ w' = w := by
  go_enter Tryz.func77, Tryz.ntmps77
  go_wp2_with (first | (go_at_call 76; refine (con76 _).mono ?_; rintro e w1 ⟨rfl, hw1⟩; subst w1))
  go_ret
  first | exact ⟨rfl, rfl⟩ | exact ⟨by kernel_rfl, rfl⟩
set_option maxHeartbeats 1000000 in
set_option maxRecDepth 100000 in
theorem con79 (w : World) : Calls Tryz.prog 79 #[] w fun e w' => e = .returned (.int .i32 2147483647) ∧ w' = w := by
  go_enter Tryz.func79, Tryz.ntmps79
  go_wp2_with (first | (go_at_call 78; refine (con78 _).mono ?_; rintro e w1 ⟨rfl, hw1⟩; subst w1))
  go_ret
  first | exact ⟨rfl, rfl⟩ | exact ⟨by kernel_rfl, rfl⟩
set_option maxHeartbeats 1000000 in
set_option maxRecDepth 100000 in
theorem con81 (w : World) : Calls Tryz.prog 81 #[] w fun e w' => e = .returned (.int .i64 9223372036854775807) ∧ w' = w := by
  go_enter Tryz.func81, Tryz.ntmps81
  go_wp2_with (first | (go_at_call 80; refine (con80 _).mono ?_; rintro e w1 ⟨rfl, hw1⟩; subst w1))
  go_ret
  first | exact ⟨rfl, rfl⟩ | exact ⟨by kernel_rfl, rfl⟩
set_option maxHeartbeats 1000000 in
set_option maxRecDepth 100000 in
theorem con40 (w : World) : Calls Tryz.prog 40 #[] w fun e w' => e = .returned (.int .u32 255) ∧ w' = w := by
  go_enter Tryz.func40, Tryz.ntmps40
  go_wp2_with (first | (go_at_call 66; refine (con66 _).mono ?_; rintro e w1 ⟨rfl, hw1⟩; subst w1) | (go_at_call 67; refine (con67 _).mono ?_; rintro e w1 ⟨rfl, hw1⟩; subst w1) | (go_at_call 68; refine (con68 _).mono ?_; rintro e w1 ⟨rfl, hw1⟩; subst w1) | (go_at_call 69; refine (con69 _).mono ?_; rintro e w1 ⟨rfl, hw1⟩; subst w1))
  go_ret
  first | exact ⟨rfl, rfl⟩ | exact ⟨by kernel_rfl, rfl⟩
set_option maxHeartbeats 1000000 in
set_option maxRecDepth 100000 in
theorem con41 (w : World) : Calls Tryz.prog 41 #[] w fun e w' => e = .returned (.int .u32 65535) ∧ w' = w := by
  go_enter Tryz.func41, Tryz.ntmps41
  go_wp2_with (first | (go_at_call 66; refine (con66 _).mono ?_; rintro e w1 ⟨rfl, hw1⟩; subst w1) | (go_at_call 70; refine (con70 _).mono ?_; rintro e w1 ⟨rfl, hw1⟩; subst w1) | (go_at_call 71; refine (con71 _).mono ?_; rintro e w1 ⟨rfl, hw1⟩; subst w1) | (go_at_call 69; refine (con69 _).mono ?_; rintro e w1 ⟨rfl, hw1⟩; subst w1))
  go_ret
  first | exact ⟨rfl, rfl⟩ | exact ⟨by kernel_rfl, rfl⟩
set_option maxHeartbeats 1000000 in
set_option maxRecDepth 100000 in
theorem con42 (w : World) : Calls Tryz.prog 42 #[] w fun e w' => e = .returned (.int .u32 4294967295) ∧ w' = w := by
  go_enter Tryz.func42, Tryz.ntmps42
  go_wp2_with (first | (go_at_call 66; refine (con66 _).mono ?_; rintro e w1 ⟨rfl, hw1⟩; subst w1) | (go_at_call 69; refine (con69 _).mono ?_; rintro e w1 ⟨rfl, hw1⟩; subst w1))
  go_ret
  first | exact ⟨rfl, rfl⟩ | exact ⟨by kernel_rfl, rfl⟩
set_option maxHeartbeats 1000000 in
set_option maxRecDepth 100000 in
theorem con43 (w : World) : Calls Tryz.prog 43 #[] w fun e w' => e = .returned (.int .u32 4294967295) ∧ w' = w := by
  go_enter Tryz.func43, Tryz.ntmps43
  go_wp2_with (first | (go_at_call 66; refine (con66 _).mono ?_; rintro e w1 ⟨rfl, hw1⟩; subst w1) | (go_at_call 72; refine (con72 _).mono ?_; rintro e w1 ⟨rfl, hw1⟩; subst w1) | (go_at_call 73; refine (con73 _).mono ?_; rintro e w1 ⟨rfl, hw1⟩; subst w1) | (go_at_call 69; refine (con69 _).mono ?_; rintro e w1 ⟨rfl, hw1⟩; subst w1))
  go_ret
  first | exact ⟨rfl, rfl⟩ | exact ⟨by kernel_rfl, rfl⟩
set_option maxHeartbeats 1000000 in
set_option maxRecDepth 100000 in
theorem con52 (w : World) : Calls Tryz.prog 52 #[] w fun e w' => e = .returned (.int .u8 255) ∧ w' = w := by
  go_enter Tryz.func52, Tryz.ntmps52
  go_wp2_with (first | (go_at_call 67; refine (con67 _).mono ?_; rintro e w1 ⟨rfl, hw1⟩; subst w1) | (go_at_call 68; refine (con68 _).mono ?_; rintro e w1 ⟨rfl, hw1⟩; subst w1))
  go_ret
  first | exact ⟨rfl, rfl⟩ | exact ⟨by kernel_rfl, rfl⟩
set_option maxHeartbeats 1000000 in
set_option maxRecDepth 100000 in
theorem con53 (w : World) : Calls Tryz.prog 53 #[] w fun e w' => e = .returned (.int .u8 255) ∧ w' = w := by
  go_enter Tryz.func53, Tryz.ntmps53
  go_wp2_with (first | (go_at_call 67; refine (con67 _).mono ?_; rintro e w1 ⟨rfl, hw1⟩; subst w1) | (go_at_call 70; refine (con70 _).mono ?_; rintro e w1 ⟨rfl, hw1⟩; subst w1) | (go_at_call 71; refine (con71 _).mono ?_; rintro e w1 ⟨rfl, hw1⟩; subst w1) | (go_at_call 68; refine (con68 _).mono ?_; rintro e w1 ⟨rfl, hw1⟩; subst w1))
  go_ret
  first | exact ⟨rfl, rfl⟩ | exact ⟨by kernel_rfl, rfl⟩
set_option maxHeartbeats 1000000 in
set_option maxRecDepth 100000 in
theorem con54 (w : World) : Calls Tryz.prog 54 #[] w fun e w' => e = .returned (.int .u8 255) ∧ w' = w := by
  go_enter Tryz.func54, Tryz.ntmps54
  go_wp2_with (first | (go_at_call 67; refine (con67 _).mono ?_; rintro e w1 ⟨rfl, hw1⟩; subst w1) | (go_at_call 66; refine (con66 _).mono ?_; rintro e w1 ⟨rfl, hw1⟩; subst w1) | (go_at_call 69; refine (con69 _).mono ?_; rintro e w1 ⟨rfl, hw1⟩; subst w1) | (go_at_call 68; refine (con68 _).mono ?_; rintro e w1 ⟨rfl, hw1⟩; subst w1))
  go_ret
  first | exact ⟨rfl, rfl⟩ | exact ⟨by kernel_rfl, rfl⟩
set_option maxHeartbeats 1000000 in
set_option maxRecDepth 100000 in
theorem con55 (w : World) : Calls Tryz.prog 55 #[] w fun e w' => e = .returned (.int .u8 255) ∧ w' = w := by
  go_enter Tryz.func55, Tryz.ntmps55
  go_wp2_with (first | (go_at_call 67; refine (con67 _).mono ?_; rintro e w1 ⟨rfl, hw1⟩; subst w1) | (go_at_call 72; refine (con72 _).mono ?_; rintro e w1 ⟨rfl, hw1⟩; subst w1) | (go_at_call 73; refine (con73 _).mono ?_; rintro e w1 ⟨rfl, hw1⟩; subst w1) | (go_at_call 68; refine (con68 _).mono ?_; rintro e w1 ⟨rfl, hw1⟩; subst w1))
  go_ret
  first | exact ⟨rfl, rfl⟩ | exact ⟨by kernel_rfl, rfl⟩
set_option maxHeartbeats 1000000 in
set_option maxRecDepth 100000 in
theorem con44 (w : World) : Calls Tryz.prog 44 #[] w fun e w' => e = .returned (.int .u32 127) ∧ w' = w := by
  go_enter Tryz.func44, Tryz.ntmps44
  go_wp2_with (first | (go_at_call 66; refine (con66 _).mono ?_; rintro e w1 ⟨rfl, hw1⟩; subst w1) | (go_at_call 74; refine (con74 _).mono ?_; rintro e w1 ⟨rfl, hw1⟩; subst w1) | (go_at_call 75; refine (con75 _).mono ?_; rintro e w1 ⟨rfl, hw1⟩; subst w1) | (go_at_call 69; refine (con69 _).mono ?_; rintro e w1 ⟨rfl, hw1⟩; subst w1))
  go_ret
  first | exact ⟨rfl, rfl⟩ | exact ⟨by kernel_rfl, rfl⟩
set_option maxHeartbeats 1000000 in
set_option maxRecDepth 100000 in
theorem con45 (w : World) : Calls Tryz.prog 45 #[] w fun e w' => e = .returned (.int .u32 32767) ∧ w' = w := by
  go_enter Tryz.func45, Tryz.ntmps45
  go_wp2_with (first | (go_at_call 66; refine (con66 _).mono ?_; rintro e w1 ⟨rfl, hw1⟩; subst w1) | (go_at_call 76; refine (con76 _).mono ?_; rintro e w1 ⟨rfl, hw1⟩; subst w1) | (go_at_call 77; refine (con77 _).mono ?_; rintro e w1 ⟨rfl, hw1⟩; subst w1) | (go_at_call 69; refine (con69 _).mono ?_; rintro e w1 ⟨rfl, hw1⟩; subst w1))
  go_ret
  first | exact ⟨rfl, rfl⟩ | exact ⟨by kernel_rfl, rfl⟩
set_option maxHeartbeats 1000000 in
set_option maxRecDepth 100000 in
theorem con46 (w : World) : Calls Tryz.prog 46 #[] w fun e w' => e = .returned (.int .u32 2147483647) ∧ w' = w := by
  go_enter Tryz.func46, Tryz.ntmps46
  go_wp2_with (first | (go_at_call 66; refine (con66 _).mono ?_; rintro e w1 ⟨rfl, hw1⟩; subst w1) | (go_at_call 78; refine (con78 _).mono ?_; rintro e w1 ⟨rfl, hw1⟩; subst w1) | (go_at_call 79; refine (con79 _).mono ?_; rintro e w1 ⟨rfl, hw1⟩; subst w1) | (go_at_call 69; refine (con69 _).mono ?_; rintro e w1 ⟨rfl, hw1⟩; subst w1))
  go_ret
  first | exact ⟨rfl, rfl⟩ | exact ⟨by kernel_rfl, rfl⟩
set_option maxHeartbeats 1000000 in
set_option maxRecDepth 100000 in
theorem con47 (w : World) : Calls Tryz.prog 47 #[] w fun e w' => e = .returned (.int .u32 4294967295) ∧ w' = w := by
  go_enter Tryz.func47, Tryz.ntmps47
  go_wp2_with (first | (go_at_call 66; refine (con66 _).mono ?_; rintro e w1 ⟨rfl, hw1⟩; subst w1) | (go_at_call 80; refine (con80 _).mono ?_; rintro e w1 ⟨rfl, hw1⟩; subst w1) | (go_at_call 81; refine (con81 _).mono ?_; rintro e w1 ⟨rfl, hw1⟩; subst w1) | (go_at_call 69; refine (con69 _).mono ?_; rintro e w1 ⟨rfl, hw1⟩; subst w1))
  go_ret
  first | exact ⟨rfl, rfl⟩ | exact ⟨by kernel_rfl, rfl⟩
set_option maxHeartbeats 1000000 in
set_option maxRecDepth 100000 in
theorem con56 (w : World) : Calls Tryz.prog 56 #[] w fun e w' => e = .returned (.int .u8 127) ∧ w' = w := by
  go_enter Tryz.func56, Tryz.ntmps56
  go_wp2_with (first | (go_at_call 67; refine (con67 _).mono ?_; rintro e w1 ⟨rfl, hw1⟩; subst w1) | (go_at_call 74; refine (con74 _).mono ?_; rintro e w1 ⟨rfl, hw1⟩; subst w1) | (go_at_call 75; refine (con75 _).mono ?_; rintro e w1 ⟨rfl, hw1⟩; subst w1) | (go_at_call 68; refine (con68 _).mono ?_; rintro e w1 ⟨rfl, hw1⟩; subst w1))
  go_ret
  first | exact ⟨rfl, rfl⟩ | exact ⟨by kernel_rfl, rfl⟩
set_option maxHeartbeats 1000000 in
set_option maxRecDepth 100000 in
theorem con57 (w : World) : Calls Tryz.prog 57 #[] w fun e w' => e = .returned (.int .u8 255) ∧ w' = w := by
  go_enter Tryz.func57, Tryz.ntmps57
  go_wp2_with (first | (go_at_call 67; refine (con67 _).mono ?_; rintro e w1 ⟨rfl, hw1⟩; subst w1) | (go_at_call 76; refine (con76 _).mono ?_; rintro e w1 ⟨rfl, hw1⟩; subst w1) | (go_at_call 77; refine (con77 _).mono ?_; rintro e w1 ⟨rfl, hw1⟩; subst w1) | (go_at_call 68; refine (con68 _).mono ?_; rintro e w1 ⟨rfl, hw1⟩; subst w1))
  go_ret
  first | exact ⟨rfl, rfl⟩ | exact ⟨by kernel_rfl, rfl⟩
set_option maxHeartbeats 1000000 in
set_option maxRecDepth 100000 in
theorem con58 (w : World) : Calls Tryz.prog 58 #[] w fun e w' => e = .returned (.int .u8 255) ∧ w' = w := by
  go_enter Tryz.func58, Tryz.ntmps58
  go_wp2_with (first | (go_at_call 67; refine (con67 _).mono ?_; rintro e w1 ⟨rfl, hw1⟩; subst w1) | (go_at_call 78; refine (con78 _).mono ?_; rintro e w1 ⟨rfl, hw1⟩; subst w1) | (go_at_call 79; refine (con79 _).mono ?_; rintro e w1 ⟨rfl, hw1⟩; subst w1) | (go_at_call 68; refine (con68 _).mono ?_; rintro e w1 ⟨rfl, hw1⟩; subst w1))
  go_ret
  first | exact ⟨rfl, rfl⟩ | exact ⟨by kernel_rfl, rfl⟩
set_option maxHeartbeats 1000000 in
set_option maxRecDepth 100000 in
theorem con59 (w : World) : Calls Tryz.prog 59 #[] w fun e w' => e = .returned (.int .u8 255) ∧ w' = w := by
  go_enter Tryz.func59, Tryz.ntmps59
  go_wp2_with (first | (go_at_call 67; refine (con67 _).mono ?_; rintro e w1 ⟨rfl, hw1⟩; subst w1) | (go_at_call 80; refine (con80 _).mono ?_; rintro e w1 ⟨rfl, hw1⟩; subst w1) | (go_at_call 81; refine (con81 _).mono ?_; rintro e w1 ⟨rfl, hw1⟩; subst w1) | (go_at_call 68; refine (con68 _).mono ?_; rintro e w1 ⟨rfl, hw1⟩; subst w1))
  go_ret
  first | exact ⟨rfl, rfl⟩ | exact ⟨by kernel_rfl, rfl⟩
set_option maxHeartbeats 1000000 in
set_option maxRecDepth 100000 in
theorem mm23_2 (w : World) : Calls Tryz.prog 23 #[.int .i64 2] w fun e w' => e = .returned (.tuple #[.int .u32 0, .int .u32 255]) ∧ w' = w := by
  go_enter Tryz.func23, Tryz.ntmps23
  go_wp2_with (first | (go_at_call 40; refine (con40 _).mono ?_; rintro e w1 ⟨rfl, hw1⟩; subst w1))
  go_ret2
  first | exact ⟨rfl, rfl⟩ | exact ⟨by kernel_rfl, rfl⟩
set_option maxHeartbeats 1000000 in
theorem mm12_2 (w : World) : Calls Tryz.prog 12 #[.int .i64 2] w fun e w' => e = .returned (.tuple #[.int .u32 0, .int .u32 255]) ∧ w' = w := by
  go_enter Tryz.func12, Tryz.ntmps12
  go_wp2_with (first | (go_at_call 23; refine (mm23_2 _).mono ?_; rintro e w1 ⟨rfl, hw1⟩; subst w1))
  go_ret2
  first | exact ⟨rfl, rfl⟩ | exact ⟨by kernel_rfl, rfl⟩
set_option maxHeartbeats 1000000 in
set_option maxRecDepth 100000 in
theorem mm23_4 (w : World) : Calls Tryz.prog 23 #[.int .i64 4] w fun e w' => e = .returned (.tuple #[.int .u32 0, .int .u32 65535]) ∧ w' = w := by
  go_enter Tryz.func23, Tryz.ntmps23
  go_wp2_with (first | (go_at_call 41; refine (con41 _).mono ?_; rintro e w1 ⟨rfl, hw1⟩; subst w1))
  go_ret2
  first | exact ⟨rfl, rfl⟩ | exact ⟨by kernel_rfl, rfl⟩
set_option maxHeartbeats 1000000 in
theorem mm12_4 (w : World) : Calls Tryz.prog 12 #[.int .i64 4] w fun e w' => e = .returned (.tuple #[.int .u32 0, .int .u32 65535]) ∧ w' = w := by
  go_enter Tryz.func12, Tryz.ntmps12
  go_wp2_with (first | (go_at_call 23; refine (mm23_4 _).mono ?_; rintro e w1 ⟨rfl, hw1⟩; subst w1))
  go_ret2
  first | exact ⟨rfl, rfl⟩ | exact ⟨by kernel_rfl, rfl⟩
set_option maxHeartbeats 1000000 in
set_option maxRecDepth 100000 in
theorem mm23_6 (w : World) : Calls Tryz.prog 23 #[.int .i64 6] w fun e w' => e = .returned (.tuple #[.int .u32 0, .int .u32 4294967295]) ∧ w' = w := by
  go_enter Tryz.func23, Tryz.ntmps23
  go_wp2_with (first | (go_at_call 42; refine (con42 _).mono ?_; rintro e w1 ⟨rfl, hw1⟩; subst w1))
  go_ret2
  first | exact ⟨rfl, rfl⟩ | exact ⟨by kernel_rfl, rfl⟩
set_option maxHeartbeats 1000000 in
theorem mm12_6 (w : World) : Calls Tryz.prog 12 #[.int .i64 6] w fun e w' => e = .returned (.tuple #[.int .u32 0, .int .u32 4294967295]) ∧ w' = w := by
  go_enter Tryz.func12, Tryz.ntmps12
  go_wp2_with (first | (go_at_call 23; refine (mm23_6 _).mono ?_; rintro e w1 ⟨rfl, hw1⟩; subst w1))
  go_ret2
  first | exact ⟨rfl, rfl⟩ | exact ⟨by kernel_rfl, rfl⟩
set_option maxHeartbeats 1000000 in
set_option maxRecDepth 100000 in
theorem mm23_8 (w : World) : Calls Tryz.prog 23 #[.int .i64 8] w fun e w' => e = .returned (.tuple #[.int .u32 0, .int .u32 4294967295]) ∧ w' = w := by
  go_enter Tryz.func23, Tryz.ntmps23
  go_wp2_with (first | (go_at_call 43; refine (con43 _).mono ?_; rintro e w1 ⟨rfl, hw1⟩; subst w1))
  go_ret2
  first | exact ⟨rfl, rfl⟩ | exact ⟨by kernel_rfl, rfl⟩
set_option maxHeartbeats 1000000 in
theorem mm12_8 (w : World) : Calls Tryz.prog 12 #[.int .i64 8] w fun e w' => e = .returned (.tuple #[.int .u32 0, .int .u32 4294967295]) ∧ w' = w := by
  go_enter Tryz.func12, Tryz.ntmps12
  go_wp2_with (first | (go_at_call 23; refine (mm23_8 _).mono ?_; rintro e w1 ⟨rfl, hw1⟩; subst w1))
  go_ret2
  first | exact ⟨rfl, rfl⟩ | exact ⟨by kernel_rfl, rfl⟩
set_option maxHeartbeats 1000000 in
set_option maxRecDepth 100000 in
theorem mm23_3 (w : World) : Calls Tryz.prog 23 #[.int .i64 3] w fun e w' => e = .returned (.tuple #[.int .u32 0, .int .u32 127]) ∧ w' = w := by
  go_enter Tryz.func23, Tryz.ntmps23
  go_wp2_with (first | (go_at_call 44; refine (con44 _).mono ?_; rintro e w1 ⟨rfl, hw1⟩; subst w1))
  go_ret2
  first | exact ⟨rfl, rfl⟩ | exact ⟨by kernel_rfl, rfl⟩
set_option maxHeartbeats 1000000 in
theorem mm12_3 (w : World) : Calls Tryz.prog 12 #[.int .i64 3] w fun e w' => e = .returned (.tuple #[.int .u32 0, .int .u32 127]) ∧ w' = w := by
  go_enter Tryz.func12, Tryz.ntmps12
  go_wp2_with (first | (go_at_call 23; refine (mm23_3 _).mono ?_; rintro e w1 ⟨rfl, hw1⟩; subst w1))
  go_ret2
  first | exact ⟨rfl, rfl⟩ | exact ⟨by kernel_rfl, rfl⟩
set_option maxHeartbeats 1000000 in
set_option maxRecDepth 100000 in
theorem mm23_5 (w : World) : Calls Tryz.prog 23 #[.int .i64 5] w fun e w' => e = .returned (.tuple #[.int .u32 0, .int .u32 32767]) ∧ w' = w := by
  go_enter Tryz.func23, Tryz.ntmps23
  go_wp2_with (first | (go_at_call 45; refine (con45 _).mono ?_; rintro e w1 ⟨rfl, hw1⟩; subst w1))
  go_ret2
  first | exact ⟨rfl, rfl⟩ | exact ⟨by kernel_rfl, rfl⟩
set_option maxHeartbeats 1000000 in
theorem mm12_5 (w : World) : Calls Tryz.prog 12 #[.int .i64 5] w fun e w' => e = .returned (.tuple #[.int .u32 0, .int .u32 32767]) ∧ w' = w := by
  go_enter Tryz.func12, Tryz.ntmps12
  go_wp2_with (first | (go_at_call 23; refine (mm23_5 _).mono ?_; rintro e w1 ⟨rfl, hw1⟩; subst w1))
  go_ret2
  first | exact ⟨rfl, rfl⟩ | exact ⟨by kernel_rfl, rfl⟩
set_option maxHeartbeats 1000000 in
set_option maxRecDepth 100000 in
theorem mm23_7 (w : World) : Calls Tryz.prog 23 #[.int .i64 7] w fun e w' => e = .returned (.tuple #[.int .u32 0, .int .u32 2147483647]) ∧ w' = w := by
  go_enter Tryz.func23, Tryz.ntmps23
  go_wp2_with (first | (go_at_call 46; refine (con46 _).mono ?_; rintro e w1 ⟨rfl, hw1⟩; subst w1))
  go_ret2
  first | exact ⟨rfl, rfl⟩ | exact ⟨by kernel_rfl, rfl⟩
set_option maxHeartbeats 1000000 in
theorem mm12_7 (w : World) : Calls Tryz.prog 12 #[.int .i64 7] w fun e w' => e = .returned (.tuple #[.int .u32 0, .int .u32 2147483647]) ∧ w' = w := by
  go_enter Tryz.func12, Tryz.ntmps12
  go_wp2_with (first | (go_at_call 23; refine (mm23_7 _).mono ?_; rintro e w1 ⟨rfl, hw1⟩; subst w1))
  go_ret2
  first | exact ⟨rfl, rfl⟩ | exact ⟨by kernel_rfl, rfl⟩
set_option maxHeartbeats 1000000 in
set_option maxRecDepth 100000 in
theorem mm23_9 (w : World) : Calls Tryz.prog 23 #[.int .i64 9] w fun e w' => e = .returned (.tuple #[.int .u32 0, .int .u32 4294967295]) ∧ w' = w := by
  go_enter Tryz.func23, Tryz.ntmps23
  go_wp2_with (first | (go_at_call 47; refine (con47 _).mono ?_; rintro e w1 ⟨rfl, hw1⟩; subst w1))
  go_ret2
  first | exact ⟨rfl, rfl⟩ | exact ⟨by kernel_rfl, rfl⟩
set_option maxHeartbeats 1000000 in
theorem mm12_9 (w : World) : Calls Tryz.prog 12 #[.int .i64 9] w fun e w' => e = .returned (.tuple #[.int .u32 0, .int .u32 4294967295]) ∧ w' = w := by
  go_enter Tryz.func12, Tryz.ntmps12
  go_wp2_with (first | (go_at_call 23; refine (mm23_9 _).mono ?_; rintro e w1 ⟨rfl, hw1⟩; subst w1))
  go_ret2
  first | exact ⟨rfl, rfl⟩ | exact ⟨by kernel_rfl, rfl⟩
set_option maxHeartbeats 1000000 in
set_option maxRecDepth 100000 in
theorem mm28_2 (w : World) : Calls Tryz.prog 28 #[.int .i64 2] w fun e w' => e = .returned (.tuple #[.int .u8 0, .int .u8 255]) ∧ w' = w := by
  go_enter Tryz.func28, Tryz.ntmps28
  go_wp2_with (first | (go_at_call 52; refine (con52 _).mono ?_; rintro e w1 ⟨rfl, hw1⟩; subst w1))
  go_ret2
  first | exact ⟨rfl, rfl⟩ | exact ⟨by kernel_rfl, rfl⟩
set_option maxHeartbeats 1000000 in
theorem mm19_2 (w : World) : Calls Tryz.prog 19 #[.int .i64 2] w fun e w' => e = .returned (.tuple #[.int .u8 0, .int .u8 255]) ∧ w' = w := by
  go_enter Tryz.func19, Tryz.ntmps19
  go_wp2_with (first | (go_at_call 28; refine (mm28_2 _).mono ?_; rintro e w1 ⟨rfl, hw1⟩; subst w1))
  go_ret2
  first | exact ⟨rfl, rfl⟩ | exact ⟨by kernel_rfl, rfl⟩
set_option maxHeartbeats 1000000 in
set_option maxRecDepth 100000 in
theorem mm28_4 (w : World) : Calls Tryz.prog 28 #[.int .i64 4] w fun e w' => e = .returned (.tuple #[.int .u8 0, .int .u8 255]) ∧ w' = w := by
  go_enter Tryz.func28, Tryz.ntmps28
  go_wp2_with (first | (go_at_call 53; refine (con53 _).mono ?_; rintro e w1 ⟨rfl, hw1⟩; subst w1))
  go_ret2
  first | exact ⟨rfl, rfl⟩ | exact ⟨by kernel_rfl, rfl⟩
set_option maxHeartbeats 1000000 in
theorem mm19_4 (w : World) : Calls Tryz.prog 19 #[.int .i64 4] w fun e w' => e = .returned (.tuple #[.int .u8 0, .int .u8 255]) ∧ w' = w := by
  go_enter Tryz.func19, Tryz.ntmps19
  go_wp2_with (first | (go_at_call 28; refine (mm28_4 _).mono ?_; rintro e w1 ⟨rfl, hw1⟩; subst w1))
  go_ret2
  first | exact ⟨rfl, rfl⟩ | exact ⟨by kernel_rfl, rfl⟩
set_option maxHeartbeats 1000000 in
set_option maxRecDepth 100000 in
theorem mm28_6 (w : World) : Calls Tryz.prog 28 #[.int .i64 6] w fun e w' => e = .returned (.tuple #[.int .u8 0, .int .u8 255]) ∧ w' = w := by
  go_enter Tryz.func28, Tryz.ntmps28
  go_wp2_with (first | (go_at_call 54; refine (con54 _).mono ?_; rintro e w1 ⟨rfl, hw1⟩; subst w1))
  go_ret2
  first | exact ⟨rfl, rfl⟩ | exact ⟨by kernel_rfl, rfl⟩
set_option maxHeartbeats 1000000 in
theorem mm19_6 (w : World) : Calls Tryz.prog 19 #[.int .i64 6] w fun e w' => e = .returned (.tuple #[.int .u8 0, .int .u8 255]) ∧ w' = w := by
  go_enter Tryz.func19, Tryz.ntmps19
  go_wp2_with (first | (go_at_call 28; refine (mm28_6 _).mono ?_; rintro e w1 ⟨rfl, hw1⟩; subst w1))
  go_ret2
  first | exact ⟨rfl, rfl⟩ | exact ⟨by kernel_rfl, rfl⟩
set_option maxHeartbeats 1000000 in
set_option maxRecDepth 100000 in
theorem mm28_8 (w : World) : Calls Tryz.prog 28 #[.int .i64 8] w fun e w' => e = .returned (.tuple #[.int .u8 0, .int .u8 255]) ∧ w' = w := by
  go_enter Tryz.func28, Tryz.ntmps28
  go_wp2_with (first | (go_at_call 55; refine (con55 _).mono ?_; rintro e w1 ⟨rfl, hw1⟩; subst w1))
  go_ret2
  first | exact ⟨rfl, rfl⟩ | exact ⟨by kernel_rfl, rfl⟩
set_option maxHeartbeats 1000000 in
theorem mm19_8 (w : World) : Calls Tryz.prog 19 #[.int .i64 8] w fun e w' => e = .returned (.tuple #[.int .u8 0, .int .u8 255]) ∧ w' = w := by
  go_enter Tryz.func19, Tryz.ntmps19
  go_wp2_with (first | (go_at_call 28; refine (mm28_8 _).mono ?_; rintro e w1 ⟨rfl, hw1⟩; subst w1))
  go_ret2
  first | exact ⟨rfl, rfl⟩ | exact ⟨by kernel_rfl, rfl⟩
set_option maxHeartbeats 1000000 in
set_option maxRecDepth 100000 in
theorem mm28_3 (w : World) : Calls Tryz.prog 28 #[.int .i64 3] w fun e w' => e = .returned (.tuple #[.int .u8 0, .int .u8 127]) ∧ w' = w := by
  go_enter Tryz.func28, Tryz.ntmps28
  go_wp2_with (first | (go_at_call 56; refine (con56 _).mono ?_; rintro e w1 ⟨rfl, hw1⟩; subst w1))
  go_ret2
  first | exact ⟨rfl, rfl⟩ | exact ⟨by kernel_rfl, rfl⟩
set_option maxHeartbeats 1000000 in
theorem mm19_3 (w : World) : Calls Tryz.prog 19 #[.int .i64 3] w fun e w' => e = .returned (.tuple #[.int .u8 0, .int .u8 127]) ∧ w' = w := by
  go_enter Tryz.func19, Tryz.ntmps19
  go_wp2_with (first | (go_at_call 28; refine (mm28_3 _).mono ?_; rintro e w1 ⟨rfl, hw1⟩; subst w1))
  go_ret2
  first | exact ⟨rfl, rfl⟩ | exact ⟨by kernel_rfl, rfl⟩
set_option maxHeartbeats 1000000 in
set_option maxRecDepth 100000 in
theorem mm28_5 (w : World) : Calls Tryz.prog 28 #[.int .i64 5] w fun e w' => e = .returned (.tuple #[.int .u8 0, .int .u8 255]) ∧ w' = w := by
  go_enter Tryz.func28, Tryz.ntmps28
  go_wp2_with (first | (go_at_call 57; refine (con57 _).mono ?_; rintro e w1 ⟨rfl, hw1⟩; subst w1))
  go_ret2
  first | exact ⟨rfl, rfl⟩ | exact ⟨by kernel_rfl, rfl⟩
set_option maxHeartbeats 1000000 in
theorem mm19_5 (w : World) : Calls Tryz.prog 19 #[.int .i64 5] w fun e w' => e = .returned (.tuple #[.int .u8 0, .int .u8 255]) ∧ w' = w := by
  go_enter Tryz.func19, Tryz.ntmps19
  go_wp2_with (first | (go_at_call 28; refine (mm28_5 _).mono ?_; rintro e w1 ⟨rfl, hw1⟩; subst w1))
  go_ret2
  first | exact ⟨rfl, rfl⟩ | exact ⟨by kernel_rfl, rfl⟩
set_option maxHeartbeats 1000000 in
set_option maxRecDepth 100000 in
theorem mm28_7 (w : World) : Calls Tryz.prog 28 #[.int .i64 7] w fun e w' => e = .returned (.tuple #[.int .u8 0, .int .u8 255]) ∧ w' = w := by
  go_enter Tryz.func28, Tryz.ntmps28
  go_wp2_with (first | (go_at_call 58; refine (con58 _).mono ?_; rintro e w1 ⟨rfl, hw1⟩; subst w1))
  go_ret2
  first | exact ⟨rfl, rfl⟩ | exact ⟨by kernel_rfl, rfl⟩
set_option maxHeartbeats 1000000 in
theorem mm19_7 (w : World) : Calls Tryz.prog 19 #[.int .i64 7] w fun e w' => e = .returned (.tuple #[.int .u8 0, .int .u8 255]) ∧ w' = w := by
  go_enter Tryz.func19, Tryz.ntmps19
  go_wp2_with (first | (go_at_call 28; refine (mm28_7 _).mono ?_; rintro e w1 ⟨rfl, hw1⟩; subst w1))
  go_ret2
  first | exact ⟨rfl, rfl⟩ | exact ⟨by kernel_rfl, rfl⟩
set_option maxHeartbeats 1000000 in
set_option maxRecDepth 100000 in
theorem mm28_9 (w : World) : Calls Tryz.prog 28 #[.int .i64 9] w fun e w' => e = .returned (.tuple #[.int .u8 0, .int .u8 255]) ∧ w' = w := by
  go_enter Tryz.func28, Tryz.ntmps28
  go_wp2_with (first | (go_at_call 59; refine (con59 _).mono ?_; rintro e w1 ⟨rfl, hw1⟩; subst w1))
  go_ret2
  first | exact ⟨rfl, rfl⟩ | exact ⟨by kernel_rfl, rfl⟩
set_option maxHeartbeats 1000000 in
theorem mm19_9 (w : World) : Calls Tryz.prog 19 #[.int .i64 9] w fun e w' => e = .returned (.tuple #[.int .u8 0, .int .u8 255]) ∧ w' = w := by
  go_enter Tryz.func19, Tryz.ntmps19
  go_wp2_with (first | (go_at_call 28; refine (mm28_9 _).mono ?_; rintro e w1 ⟨rfl, hw1⟩; subst w1))
  go_ret2
  first | exact ⟨rfl, rfl⟩ | exact ⟨by kernel_rfl, rfl⟩
end Go.Proofs.YtgomeiepiajpeaaGreat.Q
