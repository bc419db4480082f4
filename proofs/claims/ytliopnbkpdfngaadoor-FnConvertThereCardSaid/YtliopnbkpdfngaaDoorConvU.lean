/-
  Contracts of ql.convert by pairs of types. No condition but the types.
-/
import Derived.Test.YtliopnbkpdfngaaDoorConvB
namespace Go.Proofs.YtliopnbkpdfngaaDoor
open Go.RowKit
set_option maxRecDepth 100000 in
set_option maxHeartbeats 4000000 in
theorem cv_uint8_uint8 (n : Int) (w : World) : Calls Tryd.prog 31 #[.iface 5 (.int .u8 n), .int .i64 117] w fun e w' => e = .returned (.tuple #[.iface 5 (.int .u8 n), .nilIface]) ∧ w = w' := by
  have g0 := @tm_if
  have g1 := @tm_ii
  have g2 := @tm_ir
  have g3 := @tm_iu
  have g4 := @tm_f32
  have g5 := @tm_f64
  have g6 := @tm_i8
  have g7 := @tm_i16
  have g8 := @tm_i32
  have g9 := @tm_i64
  have h := fun w => run_ta_hit (P := Tryd.prog) (t := 5) (by kernel_rfl) 20 (.int .u8 n) w
  go_enter Tryd.func31, Tryd.ntmps31
  go_wp2_with (go_at_call 34; refine (ovf_any _ _ rfl rfl rfl _ _).mono ?_; rintro e w' ⟨rfl, rfl⟩)
  all_goals (go_ret2; exact ⟨rfl, rfl⟩)
set_option maxRecDepth 100000 in
set_option maxHeartbeats 4000000 in
theorem cv_uint8_uint16 (n : Int) (w : World) : Calls Tryd.prog 31 #[.iface 5 (.int .u8 n), .int .i64 118] w fun e w' => e = .returned (.tuple #[.iface 53 (.int .u16 (IntKind.u16.wrap n)), .nilIface]) ∧ w = w' := by
  have g0 := @tm_if
  have g1 := @tm_ii
  have g2 := @tm_ir
  have g3 := @tm_iu
  have g4 := @tm_f32
  have g5 := @tm_f64
  have g6 := @tm_i8
  have g7 := @tm_i16
  have g8 := @tm_i32
  have g9 := @tm_i64
  have h := fun w => run_ta_hit (P := Tryd.prog) (t := 5) (by kernel_rfl) 20 (.int .u8 n) w
  go_enter Tryd.func31, Tryd.ntmps31
  go_wp2_with (go_at_call 34; refine (ovf_any _ _ rfl rfl rfl _ _).mono ?_; rintro e w' ⟨rfl, rfl⟩)
  all_goals (go_ret2; exact ⟨rfl, rfl⟩)
set_option maxRecDepth 100000 in
set_option maxHeartbeats 4000000 in
theorem cv_uint8_uint32 (n : Int) (w : World) : Calls Tryd.prog 31 #[.iface 5 (.int .u8 n), .int .i64 119] w fun e w' => e = .returned (.tuple #[.iface 54 (.int .u32 (IntKind.u32.wrap n)), .nilIface]) ∧ w = w' := by
  have g0 := @tm_if
  have g1 := @tm_ii
  have g2 := @tm_ir
  have g3 := @tm_iu
  have g4 := @tm_f32
  have g5 := @tm_f64
  have g6 := @tm_i8
  have g7 := @tm_i16
  have g8 := @tm_i32
  have g9 := @tm_i64
  have h := fun w => run_ta_hit (P := Tryd.prog) (t := 5) (by kernel_rfl) 20 (.int .u8 n) w
  go_enter Tryd.func31, Tryd.ntmps31
  go_wp2_with (go_at_call 34; refine (ovf_any _ _ rfl rfl rfl _ _).mono ?_; rintro e w' ⟨rfl, rfl⟩)
  all_goals (go_ret2; exact ⟨rfl, rfl⟩)
set_option maxRecDepth 100000 in
set_option maxHeartbeats 4000000 in
theorem cv_uint8_uint64 (n : Int) (w : World) : Calls Tryd.prog 31 #[.iface 5 (.int .u8 n), .int .i64 120] w fun e w' => e = .returned (.tuple #[.iface 22 (.int .u64 (IntKind.u64.wrap n)), .nilIface]) ∧ w = w' := by
  have g0 := @tm_if
  have g1 := @tm_ii
  have g2 := @tm_ir
  have g3 := @tm_iu
  have g4 := @tm_f32
  have g5 := @tm_f64
  have g6 := @tm_i8
  have g7 := @tm_i16
  have g8 := @tm_i32
  have g9 := @tm_i64
  have h := fun w => run_ta_hit (P := Tryd.prog) (t := 5) (by kernel_rfl) 20 (.int .u8 n) w
  go_enter Tryd.func31, Tryd.ntmps31
  go_wp2_with (go_at_call 34; refine (ovf_any _ _ rfl rfl rfl _ _).mono ?_; rintro e w' ⟨rfl, rfl⟩)
  all_goals (go_ret2; exact ⟨rfl, rfl⟩)
set_option maxRecDepth 100000 in
set_option maxHeartbeats 4000000 in
theorem cv_uint16_uint8 (n : Int) (w : World) : Calls Tryd.prog 31 #[.iface 53 (.int .u16 n), .int .i64 117] w fun e w' => e = .returned (.tuple #[.iface 5 (.int .u8 (IntKind.u8.wrap n)), .nilIface]) ∧ w = w' := by
  have g0 := @tm_if
  have g1 := @tm_ii
  have g2 := @tm_ir
  have g3 := @tm_iu
  have g4 := @tm_f32
  have g5 := @tm_f64
  have g6 := @tm_i8
  have g7 := @tm_i16
  have g8 := @tm_i32
  have g9 := @tm_i64
  have g10 := @tm_u8
  have h := fun w => run_ta_hit (P := Tryd.prog) (t := 53) (by kernel_rfl) 20 (.int .u16 n) w
  go_enter Tryd.func31, Tryd.ntmps31
  go_wp2_with (go_at_call 34; refine (ovf_any _ _ rfl rfl rfl _ _).mono ?_; rintro e w' ⟨rfl, rfl⟩)
  all_goals (go_ret2; exact ⟨rfl, rfl⟩)
set_option maxRecDepth 100000 in
set_option maxHeartbeats 4000000 in
theorem cv_uint16_uint16 (n : Int) (w : World) : Calls Tryd.prog 31 #[.iface 53 (.int .u16 n), .int .i64 118] w fun e w' => e = .returned (.tuple #[.iface 53 (.int .u16 n), .nilIface]) ∧ w = w' := by
  have g0 := @tm_if
  have g1 := @tm_ii
  have g2 := @tm_ir
  have g3 := @tm_iu
  have g4 := @tm_f32
  have g5 := @tm_f64
  have g6 := @tm_i8
  have g7 := @tm_i16
  have g8 := @tm_i32
  have g9 := @tm_i64
  have g10 := @tm_u8
  have h := fun w => run_ta_hit (P := Tryd.prog) (t := 53) (by kernel_rfl) 20 (.int .u16 n) w
  go_enter Tryd.func31, Tryd.ntmps31
  go_wp2_with (go_at_call 34; refine (ovf_any _ _ rfl rfl rfl _ _).mono ?_; rintro e w' ⟨rfl, rfl⟩)
  all_goals (go_ret2; exact ⟨rfl, rfl⟩)
set_option maxRecDepth 100000 in
set_option maxHeartbeats 4000000 in
theorem cv_uint16_uint32 (n : Int) (w : World) : Calls Tryd.prog 31 #[.iface 53 (.int .u16 n), .int .i64 119] w fun e w' => e = .returned (.tuple #[.iface 54 (.int .u32 (IntKind.u32.wrap n)), .nilIface]) ∧ w = w' := by
  have g0 := @tm_if
  have g1 := @tm_ii
  have g2 := @tm_ir
  have g3 := @tm_iu
  have g4 := @tm_f32
  have g5 := @tm_f64
  have g6 := @tm_i8
  have g7 := @tm_i16
  have g8 := @tm_i32
  have g9 := @tm_i64
  have g10 := @tm_u8
  have h := fun w => run_ta_hit (P := Tryd.prog) (t := 53) (by kernel_rfl) 20 (.int .u16 n) w
  go_enter Tryd.func31, Tryd.ntmps31
  go_wp2_with (go_at_call 34; refine (ovf_any _ _ rfl rfl rfl _ _).mono ?_; rintro e w' ⟨rfl, rfl⟩)
  all_goals (go_ret2; exact ⟨rfl, rfl⟩)
set_option maxRecDepth 100000 in
set_option maxHeartbeats 4000000 in
theorem cv_uint16_uint64 (n : Int) (w : World) : Calls Tryd.prog 31 #[.iface 53 (.int .u16 n), .int .i64 120] w fun e w' => e = .returned (.tuple #[.iface 22 (.int .u64 (IntKind.u64.wrap n)), .nilIface]) ∧ w = w' := by
  have g0 := @tm_if
  have g1 := @tm_ii
  have g2 := @tm_ir
  have g3 := @tm_iu
  have g4 := @tm_f32
  have g5 := @tm_f64
  have g6 := @tm_i8
  have g7 := @tm_i16
  have g8 := @tm_i32
  have g9 := @tm_i64
  have g10 := @tm_u8
  have h := fun w => run_ta_hit (P := Tryd.prog) (t := 53) (by kernel_rfl) 20 (.int .u16 n) w
  go_enter Tryd.func31, Tryd.ntmps31
  go_wp2_with (go_at_call 34; refine (ovf_any _ _ rfl rfl rfl _ _).mono ?_; rintro e w' ⟨rfl, rfl⟩)
  all_goals (go_ret2; exact ⟨rfl, rfl⟩)
set_option maxRecDepth 100000 in
set_option maxHeartbeats 4000000 in
theorem cv_uint32_uint8 (n : Int) (w : World) : Calls Tryd.prog 31 #[.iface 54 (.int .u32 n), .int .i64 117] w fun e w' => e = .returned (.tuple #[.iface 5 (.int .u8 (IntKind.u8.wrap n)), .nilIface]) ∧ w = w' := by
  have g0 := @tm_if
  have g1 := @tm_ii
  have g2 := @tm_ir
  have g3 := @tm_iu
  have g4 := @tm_f32
  have g5 := @tm_f64
  have g6 := @tm_i8
  have g7 := @tm_i16
  have g8 := @tm_i32
  have g9 := @tm_i64
  have g10 := @tm_u8
  have g11 := @tm_u16
  have h := fun w => run_ta_hit (P := Tryd.prog) (t := 54) (by kernel_rfl) 20 (.int .u32 n) w
  go_enter Tryd.func31, Tryd.ntmps31
  go_wp2_with (go_at_call 34; refine (ovf_any _ _ rfl rfl rfl _ _).mono ?_; rintro e w' ⟨rfl, rfl⟩)
  all_goals (go_ret2; exact ⟨rfl, rfl⟩)
set_option maxRecDepth 100000 in
set_option maxHeartbeats 4000000 in
theorem cv_uint32_uint16 (n : Int) (w : World) : Calls Tryd.prog 31 #[.iface 54 (.int .u32 n), .int .i64 118] w fun e w' => e = .returned (.tuple #[.iface 53 (.int .u16 (IntKind.u16.wrap n)), .nilIface]) ∧ w = w' := by
  have g0 := @tm_if
  have g1 := @tm_ii
  have g2 := @tm_ir
  have g3 := @tm_iu
  have g4 := @tm_f32
  have g5 := @tm_f64
  have g6 := @tm_i8
  have g7 := @tm_i16
  have g8 := @tm_i32
  have g9 := @tm_i64
  have g10 := @tm_u8
  have g11 := @tm_u16
  have h := fun w => run_ta_hit (P := Tryd.prog) (t := 54) (by kernel_rfl) 20 (.int .u32 n) w
  go_enter Tryd.func31, Tryd.ntmps31
  go_wp2_with (go_at_call 34; refine (ovf_any _ _ rfl rfl rfl _ _).mono ?_; rintro e w' ⟨rfl, rfl⟩)
  all_goals (go_ret2; exact ⟨rfl, rfl⟩)
set_option maxRecDepth 100000 in
set_option maxHeartbeats 4000000 in
theorem cv_uint32_uint32 (n : Int) (w : World) : Calls Tryd.prog 31 #[.iface 54 (.int .u32 n), .int .i64 119] w fun e w' => e = .returned (.tuple #[.iface 54 (.int .u32 n), .nilIface]) ∧ w = w' := by
  have g0 := @tm_if
  have g1 := @tm_ii
  have g2 := @tm_ir
  have g3 := @tm_iu
  have g4 := @tm_f32
  have g5 := @tm_f64
  have g6 := @tm_i8
  have g7 := @tm_i16
  have g8 := @tm_i32
  have g9 := @tm_i64
  have g10 := @tm_u8
  have g11 := @tm_u16
  have h := fun w => run_ta_hit (P := Tryd.prog) (t := 54) (by kernel_rfl) 20 (.int .u32 n) w
  go_enter Tryd.func31, Tryd.ntmps31
  go_wp2_with (go_at_call 34; refine (ovf_any _ _ rfl rfl rfl _ _).mono ?_; rintro e w' ⟨rfl, rfl⟩)
  all_goals (go_ret2; exact ⟨rfl, rfl⟩)
set_option maxRecDepth 100000 in
set_option maxHeartbeats 4000000 in
theorem cv_uint32_uint64 (n : Int) (w : World) : Calls Tryd.prog 31 #[.iface 54 (.int .u32 n), .int .i64 120] w fun e w' => e = .returned (.tuple #[.iface 22 (.int .u64 (IntKind.u64.wrap n)), .nilIface]) ∧ w = w' := by
  have g0 := @tm_if
  have g1 := @tm_ii
  have g2 := @tm_ir
  have g3 := @tm_iu
  have g4 := @tm_f32
  have g5 := @tm_f64
  have g6 := @tm_i8
  have g7 := @tm_i16
  have g8 := @tm_i32
  have g9 := @tm_i64
  have g10 := @tm_u8
  have g11 := @tm_u16
  have h := fun w => run_ta_hit (P := Tryd.prog) (t := 54) (by kernel_rfl) 20 (.int .u32 n) w
  go_enter Tryd.func31, Tryd.ntmps31
  go_wp2_with (go_at_call 34; refine (ovf_any _ _ rfl rfl rfl _ _).mono ?_; rintro e w' ⟨rfl, rfl⟩)
  all_goals (go_ret2; exact ⟨rfl, rfl⟩)
set_option maxRecDepth 100000 in
set_option maxHeartbeats 4000000 in
theorem cv_uint64_uint8 (n : Int) (w : World) : Calls Tryd.prog 31 #[.iface 22 (.int .u64 n), .int .i64 117] w fun e w' => e = .returned (.tuple #[.iface 5 (.int .u8 (IntKind.u8.wrap n)), .nilIface]) ∧ w = w' := by
  have g0 := @tm_if
  have g1 := @tm_ii
  have g2 := @tm_ir
  have g3 := @tm_iu
  have g4 := @tm_f32
  have g5 := @tm_f64
  have g6 := @tm_i8
  have g7 := @tm_i16
  have g8 := @tm_i32
  have g9 := @tm_i64
  have g10 := @tm_u8
  have g11 := @tm_u16
  have g12 := @tm_u32
  have h := fun w => run_ta_hit (P := Tryd.prog) (t := 22) (by kernel_rfl) 20 (.int .u64 n) w
  go_enter Tryd.func31, Tryd.ntmps31
  go_wp2_with (go_at_call 34; refine (ovf_any _ _ rfl rfl rfl _ _).mono ?_; rintro e w' ⟨rfl, rfl⟩)
  all_goals (go_ret2; exact ⟨rfl, rfl⟩)
set_option maxRecDepth 100000 in
set_option maxHeartbeats 4000000 in
theorem cv_uint64_uint16 (n : Int) (w : World) : Calls Tryd.prog 31 #[.iface 22 (.int .u64 n), .int .i64 118] w fun e w' => e = .returned (.tuple #[.iface 53 (.int .u16 (IntKind.u16.wrap n)), .nilIface]) ∧ w = w' := by
  have g0 := @tm_if
  have g1 := @tm_ii
  have g2 := @tm_ir
  have g3 := @tm_iu
  have g4 := @tm_f32
  have g5 := @tm_f64
  have g6 := @tm_i8
  have g7 := @tm_i16
  have g8 := @tm_i32
  have g9 := @tm_i64
  have g10 := @tm_u8
  have g11 := @tm_u16
  have g12 := @tm_u32
  have h := fun w => run_ta_hit (P := Tryd.prog) (t := 22) (by kernel_rfl) 20 (.int .u64 n) w
  go_enter Tryd.func31, Tryd.ntmps31
  go_wp2_with (go_at_call 34; refine (ovf_any _ _ rfl rfl rfl _ _).mono ?_; rintro e w' ⟨rfl, rfl⟩)
  all_goals (go_ret2; exact ⟨rfl, rfl⟩)
set_option maxRecDepth 100000 in
set_option maxHeartbeats 4000000 in
theorem cv_uint64_uint32 (n : Int) (w : World) : Calls Tryd.prog 31 #[.iface 22 (.int .u64 n), .int .i64 119] w fun e w' => e = .returned (.tuple #[.iface 54 (.int .u32 (IntKind.u32.wrap n)), .nilIface]) ∧ w = w' := by
  have g0 := @tm_if
  have g1 := @tm_ii
  have g2 := @tm_ir
  have g3 := @tm_iu
  have g4 := @tm_f32
  have g5 := @tm_f64
  have g6 := @tm_i8
  have g7 := @tm_i16
  have g8 := @tm_i32
  have g9 := @tm_i64
  have g10 := @tm_u8
  have g11 := @tm_u16
  have g12 := @tm_u32
  have h := fun w => run_ta_hit (P := Tryd.prog) (t := 22) (by kernel_rfl) 20 (.int .u64 n) w
  go_enter Tryd.func31, Tryd.ntmps31
  go_wp2_with (go_at_call 34; refine (ovf_any _ _ rfl rfl rfl _ _).mono ?_; rintro e w' ⟨rfl, rfl⟩)
  all_goals (go_ret2; exact ⟨rfl, rfl⟩)
set_option maxRecDepth 100000 in
set_option maxHeartbeats 4000000 in
theorem cv_uint64_uint64 (n : Int) (w : World) : Calls Tryd.prog 31 #[.iface 22 (.int .u64 n), .int .i64 120] w fun e w' => e = .returned (.tuple #[.iface 22 (.int .u64 n), .nilIface]) ∧ w = w' := by
  have g0 := @tm_if
  have g1 := @tm_ii
  have g2 := @tm_ir
  have g3 := @tm_iu
  have g4 := @tm_f32
  have g5 := @tm_f64
  have g6 := @tm_i8
  have g7 := @tm_i16
  have g8 := @tm_i32
  have g9 := @tm_i64
  have g10 := @tm_u8
  have g11 := @tm_u16
  have g12 := @tm_u32
  have h := fun w => run_ta_hit (P := Tryd.prog) (t := 22) (by kernel_rfl) 20 (.int .u64 n) w
  go_enter Tryd.func31, Tryd.ntmps31
  go_wp2_with (go_at_call 34; refine (ovf_any _ _ rfl rfl rfl _ _).mono ?_; rintro e w' ⟨rfl, rfl⟩)
  all_goals (go_ret2; exact ⟨rfl, rfl⟩)
end Go.Proofs.YtliopnbkpdfngaaDoor
