/-
  Contracts of ql.convert by pairs of types. No condition but the types.
-/
import Derived.Test.YtliopnbkpdfngaaDoorConvB
namespace Go.Proofs.YtliopnbkpdfngaaDoor
open Go.RowKit
set_option maxRecDepth 100000 in
set_option maxHeartbeats 4000000 in
theorem cv_int8_int8 (n : Int) (w : World) : Calls Tryd.prog 31 #[.iface 51 (.int .i8 n), .int .i64 105] w fun e w' => e = .returned (.tuple #[.iface 51 (.int .i8 n), .nilIface]) ∧ w = w' := by
  have g0 := @tm_if
  have g1 := @tm_ii
  have g2 := @tm_ir
  have g3 := @tm_iu
  have g4 := @tm_f32
  have g5 := @tm_f64
  have h := fun w => run_ta_hit (P := Tryd.prog) (t := 51) (by kernel_rfl) 20 (.int .i8 n) w
  go_enter Tryd.func31, Tryd.ntmps31
  go_wp2_with (go_at_call 34; refine (ovf_any _ _ rfl rfl rfl _ _).mono ?_; rintro e w' ⟨rfl, rfl⟩)
  all_goals (go_ret2; exact ⟨rfl, rfl⟩)
set_option maxRecDepth 100000 in
set_option maxHeartbeats 4000000 in
theorem cv_int8_int16 (n : Int) (w : World) : Calls Tryd.prog 31 #[.iface 51 (.int .i8 n), .int .i64 106] w fun e w' => e = .returned (.tuple #[.iface 52 (.int .i16 (IntKind.i16.wrap n)), .nilIface]) ∧ w = w' := by
  have g0 := @tm_if
  have g1 := @tm_ii
  have g2 := @tm_ir
  have g3 := @tm_iu
  have g4 := @tm_f32
  have g5 := @tm_f64
  have h := fun w => run_ta_hit (P := Tryd.prog) (t := 51) (by kernel_rfl) 20 (.int .i8 n) w
  go_enter Tryd.func31, Tryd.ntmps31
  go_wp2_with (go_at_call 34; refine (ovf_any _ _ rfl rfl rfl _ _).mono ?_; rintro e w' ⟨rfl, rfl⟩)
  all_goals (go_ret2; exact ⟨rfl, rfl⟩)
set_option maxRecDepth 100000 in
set_option maxHeartbeats 4000000 in
theorem cv_int8_int32 (n : Int) (w : World) : Calls Tryd.prog 31 #[.iface 51 (.int .i8 n), .int .i64 107] w fun e w' => e = .returned (.tuple #[.iface 21 (.int .i32 (wrap32 n)), .nilIface]) ∧ w = w' := by
  have g0 := @tm_if
  have g1 := @tm_ii
  have g2 := @tm_ir
  have g3 := @tm_iu
  have g4 := @tm_f32
  have g5 := @tm_f64
  have h := fun w => run_ta_hit (P := Tryd.prog) (t := 51) (by kernel_rfl) 20 (.int .i8 n) w
  go_enter Tryd.func31, Tryd.ntmps31
  go_wp2_with (go_at_call 34; refine (ovf_any _ _ rfl rfl rfl _ _).mono ?_; rintro e w' ⟨rfl, rfl⟩)
  all_goals (go_ret2; exact ⟨rfl, rfl⟩)
set_option maxRecDepth 100000 in
set_option maxHeartbeats 4000000 in
theorem cv_int8_int64 (n : Int) (w : World) : Calls Tryd.prog 31 #[.iface 51 (.int .i8 n), .int .i64 108] w fun e w' => e = .returned (.tuple #[.iface 2 (.int .i64 (wrap64 n)), .nilIface]) ∧ w = w' := by
  have g0 := @tm_if
  have g1 := @tm_ii
  have g2 := @tm_ir
  have g3 := @tm_iu
  have g4 := @tm_f32
  have g5 := @tm_f64
  have h := fun w => run_ta_hit (P := Tryd.prog) (t := 51) (by kernel_rfl) 20 (.int .i8 n) w
  go_enter Tryd.func31, Tryd.ntmps31
  go_wp2_with (go_at_call 34; refine (ovf_any _ _ rfl rfl rfl _ _).mono ?_; rintro e w' ⟨rfl, rfl⟩)
  all_goals (go_ret2; exact ⟨rfl, rfl⟩)
set_option maxRecDepth 100000 in
set_option maxHeartbeats 4000000 in
theorem cv_int16_int8 (n : Int) (w : World) : Calls Tryd.prog 31 #[.iface 52 (.int .i16 n), .int .i64 105] w fun e w' => e = .returned (.tuple #[.iface 51 (.int .i8 (IntKind.i8.wrap n)), .nilIface]) ∧ w = w' := by
  have g0 := @tm_if
  have g1 := @tm_ii
  have g2 := @tm_ir
  have g3 := @tm_iu
  have g4 := @tm_f32
  have g5 := @tm_f64
  have g6 := @tm_i8
  have h := fun w => run_ta_hit (P := Tryd.prog) (t := 52) (by kernel_rfl) 20 (.int .i16 n) w
  go_enter Tryd.func31, Tryd.ntmps31
  go_wp2_with (go_at_call 34; refine (ovf_any _ _ rfl rfl rfl _ _).mono ?_; rintro e w' ⟨rfl, rfl⟩)
  all_goals (go_ret2; exact ⟨rfl, rfl⟩)
set_option maxRecDepth 100000 in
set_option maxHeartbeats 4000000 in
theorem cv_int16_int16 (n : Int) (w : World) : Calls Tryd.prog 31 #[.iface 52 (.int .i16 n), .int .i64 106] w fun e w' => e = .returned (.tuple #[.iface 52 (.int .i16 n), .nilIface]) ∧ w = w' := by
  have g0 := @tm_if
  have g1 := @tm_ii
  have g2 := @tm_ir
  have g3 := @tm_iu
  have g4 := @tm_f32
  have g5 := @tm_f64
  have g6 := @tm_i8
  have h := fun w => run_ta_hit (P := Tryd.prog) (t := 52) (by kernel_rfl) 20 (.int .i16 n) w
  go_enter Tryd.func31, Tryd.ntmps31
  go_wp2_with (go_at_call 34; refine (ovf_any _ _ rfl rfl rfl _ _).mono ?_; rintro e w' ⟨rfl, rfl⟩)
  all_goals (go_ret2; exact ⟨rfl, rfl⟩)
set_option maxRecDepth 100000 in
set_option maxHeartbeats 4000000 in
theorem cv_int16_int32 (n : Int) (w : World) : Calls Tryd.prog 31 #[.iface 52 (.int .i16 n), .int .i64 107] w fun e w' => e = .returned (.tuple #[.iface 21 (.int .i32 (wrap32 n)), .nilIface]) ∧ w = w' := by
  have g0 := @tm_if
  have g1 := @tm_ii
  have g2 := @tm_ir
  have g3 := @tm_iu
  have g4 := @tm_f32
  have g5 := @tm_f64
  have g6 := @tm_i8
  have h := fun w => run_ta_hit (P := Tryd.prog) (t := 52) (by kernel_rfl) 20 (.int .i16 n) w
  go_enter Tryd.func31, Tryd.ntmps31
  go_wp2_with (go_at_call 34; refine (ovf_any _ _ rfl rfl rfl _ _).mono ?_; rintro e w' ⟨rfl, rfl⟩)
  all_goals (go_ret2; exact ⟨rfl, rfl⟩)
set_option maxRecDepth 100000 in
set_option maxHeartbeats 4000000 in
theorem cv_int16_int64 (n : Int) (w : World) : Calls Tryd.prog 31 #[.iface 52 (.int .i16 n), .int .i64 108] w fun e w' => e = .returned (.tuple #[.iface 2 (.int .i64 (wrap64 n)), .nilIface]) ∧ w = w' := by
  have g0 := @tm_if
  have g1 := @tm_ii
  have g2 := @tm_ir
  have g3 := @tm_iu
  have g4 := @tm_f32
  have g5 := @tm_f64
  have g6 := @tm_i8
  have h := fun w => run_ta_hit (P := Tryd.prog) (t := 52) (by kernel_rfl) 20 (.int .i16 n) w
  go_enter Tryd.func31, Tryd.ntmps31
  go_wp2_with (go_at_call 34; refine (ovf_any _ _ rfl rfl rfl _ _).mono ?_; rintro e w' ⟨rfl, rfl⟩)
  all_goals (go_ret2; exact ⟨rfl, rfl⟩)
set_option maxRecDepth 100000 in
set_option maxHeartbeats 4000000 in
theorem cv_int32_int8 (n : Int) (w : World) : Calls Tryd.prog 31 #[.iface 21 (.int .i32 n), .int .i64 105] w fun e w' => e = .returned (.tuple #[.iface 51 (.int .i8 (IntKind.i8.wrap n)), .nilIface]) ∧ w = w' := by
  have g0 := @tm_if
  have g1 := @tm_ii
  have g2 := @tm_ir
  have g3 := @tm_iu
  have g4 := @tm_f32
  have g5 := @tm_f64
  have g6 := @tm_i8
  have g7 := @tm_i16
  have h := fun w => run_ta_hit (P := Tryd.prog) (t := 21) (by kernel_rfl) 20 (.int .i32 n) w
  go_enter Tryd.func31, Tryd.ntmps31
  go_wp2_with (go_at_call 34; refine (ovf_any _ _ rfl rfl rfl _ _).mono ?_; rintro e w' ⟨rfl, rfl⟩)
  all_goals (go_ret2; exact ⟨rfl, rfl⟩)
set_option maxRecDepth 100000 in
set_option maxHeartbeats 4000000 in
theorem cv_int32_int16 (n : Int) (w : World) : Calls Tryd.prog 31 #[.iface 21 (.int .i32 n), .int .i64 106] w fun e w' => e = .returned (.tuple #[.iface 52 (.int .i16 (IntKind.i16.wrap n)), .nilIface]) ∧ w = w' := by
  have g0 := @tm_if
  have g1 := @tm_ii
  have g2 := @tm_ir
  have g3 := @tm_iu
  have g4 := @tm_f32
  have g5 := @tm_f64
  have g6 := @tm_i8
  have g7 := @tm_i16
  have h := fun w => run_ta_hit (P := Tryd.prog) (t := 21) (by kernel_rfl) 20 (.int .i32 n) w
  go_enter Tryd.func31, Tryd.ntmps31
  go_wp2_with (go_at_call 34; refine (ovf_any _ _ rfl rfl rfl _ _).mono ?_; rintro e w' ⟨rfl, rfl⟩)
  all_goals (go_ret2; exact ⟨rfl, rfl⟩)
set_option maxRecDepth 100000 in
set_option maxHeartbeats 4000000 in
theorem cv_int32_int32 (n : Int) (w : World) : Calls Tryd.prog 31 #[.iface 21 (.int .i32 n), .int .i64 107] w fun e w' => e = .returned (.tuple #[.iface 21 (.int .i32 n), .nilIface]) ∧ w = w' := by
  have g0 := @tm_if
  have g1 := @tm_ii
  have g2 := @tm_ir
  have g3 := @tm_iu
  have g4 := @tm_f32
  have g5 := @tm_f64
  have g6 := @tm_i8
  have g7 := @tm_i16
  have h := fun w => run_ta_hit (P := Tryd.prog) (t := 21) (by kernel_rfl) 20 (.int .i32 n) w
  go_enter Tryd.func31, Tryd.ntmps31
  go_wp2_with (go_at_call 34; refine (ovf_any _ _ rfl rfl rfl _ _).mono ?_; rintro e w' ⟨rfl, rfl⟩)
  all_goals (go_ret2; exact ⟨rfl, rfl⟩)
set_option maxRecDepth 100000 in
set_option maxHeartbeats 4000000 in
theorem cv_int32_int64 (n : Int) (w : World) : Calls Tryd.prog 31 #[.iface 21 (.int .i32 n), .int .i64 108] w fun e w' => e = .returned (.tuple #[.iface 2 (.int .i64 (wrap64 n)), .nilIface]) ∧ w = w' := by
  have g0 := @tm_if
  have g1 := @tm_ii
  have g2 := @tm_ir
  have g3 := @tm_iu
  have g4 := @tm_f32
  have g5 := @tm_f64
  have g6 := @tm_i8
  have g7 := @tm_i16
  have h := fun w => run_ta_hit (P := Tryd.prog) (t := 21) (by kernel_rfl) 20 (.int .i32 n) w
  go_enter Tryd.func31, Tryd.ntmps31
  go_wp2_with (go_at_call 34; refine (ovf_any _ _ rfl rfl rfl _ _).mono ?_; rintro e w' ⟨rfl, rfl⟩)
  all_goals (go_ret2; exact ⟨rfl, rfl⟩)
set_option maxRecDepth 100000 in
set_option maxHeartbeats 4000000 in
theorem cv_int64_int8 (n : Int) (w : World) : Calls Tryd.prog 31 #[.iface 2 (.int .i64 n), .int .i64 105] w fun e w' => e = .returned (.tuple #[.iface 51 (.int .i8 (IntKind.i8.wrap n)), .nilIface]) ∧ w = w' := by
  have g0 := @tm_if
  have g1 := @tm_ii
  have g2 := @tm_ir
  have g3 := @tm_iu
  have g4 := @tm_f32
  have g5 := @tm_f64
  have g6 := @tm_i8
  have g7 := @tm_i16
  have g8 := @tm_i32
  have h := fun w => run_ta_hit (P := Tryd.prog) (t := 2) (by kernel_rfl) 20 (.int .i64 n) w
  go_enter Tryd.func31, Tryd.ntmps31
  go_wp2_with (go_at_call 34; refine (ovf_any _ _ rfl rfl rfl _ _).mono ?_; rintro e w' ⟨rfl, rfl⟩)
  all_goals (go_ret2; exact ⟨rfl, rfl⟩)
set_option maxRecDepth 100000 in
set_option maxHeartbeats 4000000 in
theorem cv_int64_int16 (n : Int) (w : World) : Calls Tryd.prog 31 #[.iface 2 (.int .i64 n), .int .i64 106] w fun e w' => e = .returned (.tuple #[.iface 52 (.int .i16 (IntKind.i16.wrap n)), .nilIface]) ∧ w = w' := by
  have g0 := @tm_if
  have g1 := @tm_ii
  have g2 := @tm_ir
  have g3 := @tm_iu
  have g4 := @tm_f32
  have g5 := @tm_f64
  have g6 := @tm_i8
  have g7 := @tm_i16
  have g8 := @tm_i32
  have h := fun w => run_ta_hit (P := Tryd.prog) (t := 2) (by kernel_rfl) 20 (.int .i64 n) w
  go_enter Tryd.func31, Tryd.ntmps31
  go_wp2_with (go_at_call 34; refine (ovf_any _ _ rfl rfl rfl _ _).mono ?_; rintro e w' ⟨rfl, rfl⟩)
  all_goals (go_ret2; exact ⟨rfl, rfl⟩)
set_option maxRecDepth 100000 in
set_option maxHeartbeats 4000000 in
theorem cv_int64_int32 (n : Int) (w : World) : Calls Tryd.prog 31 #[.iface 2 (.int .i64 n), .int .i64 107] w fun e w' => e = .returned (.tuple #[.iface 21 (.int .i32 (wrap32 n)), .nilIface]) ∧ w = w' := by
  have g0 := @tm_if
  have g1 := @tm_ii
  have g2 := @tm_ir
  have g3 := @tm_iu
  have g4 := @tm_f32
  have g5 := @tm_f64
  have g6 := @tm_i8
  have g7 := @tm_i16
  have g8 := @tm_i32
  have h := fun w => run_ta_hit (P := Tryd.prog) (t := 2) (by kernel_rfl) 20 (.int .i64 n) w
  go_enter Tryd.func31, Tryd.ntmps31
  go_wp2_with (go_at_call 34; refine (ovf_any _ _ rfl rfl rfl _ _).mono ?_; rintro e w' ⟨rfl, rfl⟩)
  all_goals (go_ret2; exact ⟨rfl, rfl⟩)
set_option maxRecDepth 100000 in
set_option maxHeartbeats 4000000 in
theorem cv_int64_int64 (n : Int) (w : World) : Calls Tryd.prog 31 #[.iface 2 (.int .i64 n), .int .i64 108] w fun e w' => e = .returned (.tuple #[.iface 2 (.int .i64 n), .nilIface]) ∧ w = w' := by
  have g0 := @tm_if
  have g1 := @tm_ii
  have g2 := @tm_ir
  have g3 := @tm_iu
  have g4 := @tm_f32
  have g5 := @tm_f64
  have g6 := @tm_i8
  have g7 := @tm_i16
  have g8 := @tm_i32
  have h := fun w => run_ta_hit (P := Tryd.prog) (t := 2) (by kernel_rfl) 20 (.int .i64 n) w
  go_enter Tryd.func31, Tryd.ntmps31
  go_wp2_with (go_at_call 34; refine (ovf_any _ _ rfl rfl rfl _ _).mono ?_; rintro e w' ⟨rfl, rfl⟩)
  all_goals (go_ret2; exact ⟨rfl, rfl⟩)
end Go.Proofs.YtliopnbkpdfngaaDoor
