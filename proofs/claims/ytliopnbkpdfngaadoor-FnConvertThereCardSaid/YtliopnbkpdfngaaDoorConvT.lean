/-
  Contracts of ql.convert by pairs of types. No condition but the types.
-/
import Derived.Test.YtliopnbkpdfngaaDoorConvB
namespace Go.Proofs.YtliopnbkpdfngaaDoor
open Go.RowKit
set_option maxRecDepth 100000 in
set_option maxHeartbeats 4000000 in
theorem cv_bool_bool (b : Bool) (w : World) : Calls Tryd.prog 31 #[.iface 4 (.bool b), .int .i64 98] w fun e w' => e = .returned (.tuple #[.iface 4 (.bool b), .nilIface]) ∧ w = w' := by
  have h := fun w => run_ta_hit (P := Tryd.prog) (t := 4) (by kernel_rfl) 20 (.bool b) w
  go_enter Tryd.func31, Tryd.ntmps31
  go_wp2_with (go_at_call 34; refine (ovf_any _ _ rfl rfl rfl _ _).mono ?_; rintro e w' ⟨rfl, rfl⟩)
  all_goals (go_ret2; exact ⟨rfl, rfl⟩)
set_option maxRecDepth 100000 in
set_option maxHeartbeats 4000000 in
theorem cv_string_string (s : ByteArray) (w : World) : Calls Tryd.prog 31 #[.iface 9 (.string s), .int .i64 115] w fun e w' => e = .returned (.tuple #[.iface 9 (.string s), .nilIface]) ∧ w = w' := by
  have g0 := @tm_ii
  have g1 := @tm_ir
  have g2 := @tm_iu
  have g3 := @tm_i8
  have g4 := @tm_i16
  have g5 := @tm_i32
  have g6 := @tm_i64
  have h := fun w => run_ta_hit (P := Tryd.prog) (t := 9) (by kernel_rfl) 20 (.string s) w
  go_enter Tryd.func31, Tryd.ntmps31
  go_wp2_with (go_at_call 34; refine (ovf_any _ _ rfl rfl rfl _ _).mono ?_; rintro e w' ⟨rfl, rfl⟩)
  all_goals (go_ret2; exact ⟨rfl, rfl⟩)
set_option maxRecDepth 100000 in
set_option maxHeartbeats 4000000 in
theorem cv_blob_blob (g : Option Addr) (n c : Nat) (w : World) : Calls Tryd.prog 31 #[.iface 43 (.slice g n c), .int .i64 66] w fun e w' => e = .returned (.tuple #[.iface 43 (.slice g n c), .nilIface]) ∧ w = w' := by
  have g0 := @tm_str
  have h := fun w => run_ta_hit (P := Tryd.prog) (t := 43) (by kernel_rfl) 20 (.slice g n c) w
  go_enter Tryd.func31, Tryd.ntmps31
  go_wp2_with (go_at_call 34; refine (ovf_any _ _ rfl rfl rfl _ _).mono ?_; rintro e w' ⟨rfl, rfl⟩)
  all_goals (go_ret2; exact ⟨rfl, rfl⟩)
set_option maxRecDepth 100000 in
set_option maxHeartbeats 4000000 in
theorem cv_f32_f32 (x : Nat) (w : World) : Calls Tryd.prog 31 #[.iface 45 (.float .f32 x), .int .i64 102] w fun e w' => e = .returned (.tuple #[.iface 45 (.float .f32 x), .nilIface]) ∧ w = w' := by
  have g0 := @tm_if
  have g1 := @tm_ii
  have g2 := @tm_ir
  have g3 := @tm_iu
  have h := fun w => run_ta_hit (P := Tryd.prog) (t := 45) (by kernel_rfl) 20 (.float .f32 x) w
  go_enter Tryd.func31, Tryd.ntmps31
  go_wp2_with (go_at_call 34; refine (ovf_any _ _ rfl rfl rfl _ _).mono ?_; rintro e w' ⟨rfl, rfl⟩)
  all_goals (go_ret2; exact ⟨rfl, rfl⟩)
set_option maxRecDepth 100000 in
set_option maxHeartbeats 4000000 in
theorem cv_f64_f64 (x : Nat) (w : World) : Calls Tryd.prog 31 #[.iface 23 (.float .f64 x), .int .i64 103] w fun e w' => e = .returned (.tuple #[.iface 23 (.float .f64 x), .nilIface]) ∧ w = w' := by
  have g0 := @tm_if
  have g1 := @tm_ii
  have g2 := @tm_ir
  have g3 := @tm_iu
  have g4 := @tm_f32
  have h := fun w => run_ta_hit (P := Tryd.prog) (t := 23) (by kernel_rfl) 20 (.float .f64 x) w
  go_enter Tryd.func31, Tryd.ntmps31
  go_wp2_with (go_at_call 34; refine (ovf_any _ _ rfl rfl rfl _ _).mono ?_; rintro e w' ⟨rfl, rfl⟩)
  all_goals (go_ret2; exact ⟨rfl, rfl⟩)
set_option maxRecDepth 100000 in
set_option maxHeartbeats 4000000 in
theorem cv_int8_string (n : Int) (w : World) : Calls Tryd.prog 31 #[.iface 51 (.int .i8 n), .int .i64 115] w fun e w' => e = .returned (.tuple #[.iface 9 (.string (Utf8.encode (wrap32 n))), .nilIface]) ∧ w = w' := by
  have g0 := @tm_ii
  have g1 := @tm_ir
  have g2 := @tm_iu
  have h := fun w => run_ta_hit (P := Tryd.prog) (t := 51) (by kernel_rfl) 20 (.int .i8 n) w
  go_enter Tryd.func31, Tryd.ntmps31
  go_wp2_with (go_at_call 34; refine (ovf_any _ _ rfl rfl rfl _ _).mono ?_; rintro e w' ⟨rfl, rfl⟩)
  all_goals (go_ret2; exact ⟨rfl, rfl⟩)
set_option maxRecDepth 100000 in
set_option maxHeartbeats 4000000 in
theorem cv_int16_string (n : Int) (w : World) : Calls Tryd.prog 31 #[.iface 52 (.int .i16 n), .int .i64 115] w fun e w' => e = .returned (.tuple #[.iface 9 (.string (Utf8.encode (wrap32 n))), .nilIface]) ∧ w = w' := by
  have g0 := @tm_ii
  have g1 := @tm_ir
  have g2 := @tm_iu
  have g3 := @tm_i8
  have h := fun w => run_ta_hit (P := Tryd.prog) (t := 52) (by kernel_rfl) 20 (.int .i16 n) w
  go_enter Tryd.func31, Tryd.ntmps31
  go_wp2_with (go_at_call 34; refine (ovf_any _ _ rfl rfl rfl _ _).mono ?_; rintro e w' ⟨rfl, rfl⟩)
  all_goals (go_ret2; exact ⟨rfl, rfl⟩)
set_option maxRecDepth 100000 in
set_option maxHeartbeats 4000000 in
theorem cv_int32_string (n : Int) (w : World) : Calls Tryd.prog 31 #[.iface 21 (.int .i32 n), .int .i64 115] w fun e w' => e = .returned (.tuple #[.iface 9 (.string (Utf8.encode n)), .nilIface]) ∧ w = w' := by
  have g0 := @tm_ii
  have g1 := @tm_ir
  have g2 := @tm_iu
  have g3 := @tm_i8
  have g4 := @tm_i16
  have h := fun w => run_ta_hit (P := Tryd.prog) (t := 21) (by kernel_rfl) 20 (.int .i32 n) w
  go_enter Tryd.func31, Tryd.ntmps31
  go_wp2_with (go_at_call 34; refine (ovf_any _ _ rfl rfl rfl _ _).mono ?_; rintro e w' ⟨rfl, rfl⟩)
  all_goals (go_ret2; exact ⟨rfl, rfl⟩)
set_option maxRecDepth 100000 in
set_option maxHeartbeats 4000000 in
theorem cv_int64_string (n : Int) (w : World) : Calls Tryd.prog 31 #[.iface 2 (.int .i64 n), .int .i64 115] w fun e w' => e = .returned (.tuple #[.iface 9 (.string (Utf8.encode (wrap32 n))), .nilIface]) ∧ w = w' := by
  have g0 := @tm_ii
  have g1 := @tm_ir
  have g2 := @tm_iu
  have g3 := @tm_i8
  have g4 := @tm_i16
  have g5 := @tm_i32
  have h := fun w => run_ta_hit (P := Tryd.prog) (t := 2) (by kernel_rfl) 20 (.int .i64 n) w
  go_enter Tryd.func31, Tryd.ntmps31
  go_wp2_with (go_at_call 34; refine (ovf_any _ _ rfl rfl rfl _ _).mono ?_; rintro e w' ⟨rfl, rfl⟩)
  all_goals (go_ret2; exact ⟨rfl, rfl⟩)
set_option maxRecDepth 100000 in
set_option maxHeartbeats 4000000 in
theorem cv_uint8_string (n : Int) (w : World) : Calls Tryd.prog 31 #[.iface 5 (.int .u8 n), .int .i64 115] w fun e w' => e = .returned (.tuple #[.iface 9 (.string (Utf8.encode (wrap32 n))), .nilIface]) ∧ w = w' := by
  have g0 := @tm_ii
  have g1 := @tm_ir
  have g2 := @tm_iu
  have g3 := @tm_i8
  have g4 := @tm_i16
  have g5 := @tm_i32
  have g6 := @tm_i64
  have g7 := @tm_str
  have h := fun w => run_ta_hit (P := Tryd.prog) (t := 5) (by kernel_rfl) 20 (.int .u8 n) w
  go_enter Tryd.func31, Tryd.ntmps31
  go_wp2_with (go_at_call 34; refine (ovf_any _ _ rfl rfl rfl _ _).mono ?_; rintro e w' ⟨rfl, rfl⟩)
  all_goals (go_ret2; exact ⟨rfl, rfl⟩)
set_option maxRecDepth 100000 in
set_option maxHeartbeats 4000000 in
theorem cv_uint16_string (n : Int) (w : World) : Calls Tryd.prog 31 #[.iface 53 (.int .u16 n), .int .i64 115] w fun e w' => e = .returned (.tuple #[.iface 9 (.string (Utf8.encode (wrap32 n))), .nilIface]) ∧ w = w' := by
  have g0 := @tm_ii
  have g1 := @tm_ir
  have g2 := @tm_iu
  have g3 := @tm_i8
  have g4 := @tm_i16
  have g5 := @tm_i32
  have g6 := @tm_i64
  have g7 := @tm_str
  have g8 := @tm_u8
  have h := fun w => run_ta_hit (P := Tryd.prog) (t := 53) (by kernel_rfl) 20 (.int .u16 n) w
  go_enter Tryd.func31, Tryd.ntmps31
  go_wp2_with (go_at_call 34; refine (ovf_any _ _ rfl rfl rfl _ _).mono ?_; rintro e w' ⟨rfl, rfl⟩)
  all_goals (go_ret2; exact ⟨rfl, rfl⟩)
set_option maxRecDepth 100000 in
set_option maxHeartbeats 4000000 in
theorem cv_uint32_string (n : Int) (w : World) : Calls Tryd.prog 31 #[.iface 54 (.int .u32 n), .int .i64 115] w fun e w' => e = .returned (.tuple #[.iface 9 (.string (Utf8.encode (wrap32 n))), .nilIface]) ∧ w = w' := by
  have g0 := @tm_ii
  have g1 := @tm_ir
  have g2 := @tm_iu
  have g3 := @tm_i8
  have g4 := @tm_i16
  have g5 := @tm_i32
  have g6 := @tm_i64
  have g7 := @tm_str
  have g8 := @tm_u8
  have g9 := @tm_u16
  have h := fun w => run_ta_hit (P := Tryd.prog) (t := 54) (by kernel_rfl) 20 (.int .u32 n) w
  go_enter Tryd.func31, Tryd.ntmps31
  go_wp2_with (go_at_call 34; refine (ovf_any _ _ rfl rfl rfl _ _).mono ?_; rintro e w' ⟨rfl, rfl⟩)
  all_goals (go_ret2; exact ⟨rfl, rfl⟩)
set_option maxRecDepth 100000 in
set_option maxHeartbeats 4000000 in
theorem cv_uint64_string (n : Int) (w : World) : Calls Tryd.prog 31 #[.iface 22 (.int .u64 n), .int .i64 115] w fun e w' => e = .returned (.tuple #[.iface 9 (.string (Utf8.encode (wrap32 n))), .nilIface]) ∧ w = w' := by
  have g0 := @tm_ii
  have g1 := @tm_ir
  have g2 := @tm_iu
  have g3 := @tm_i8
  have g4 := @tm_i16
  have g5 := @tm_i32
  have g6 := @tm_i64
  have g7 := @tm_str
  have g8 := @tm_u8
  have g9 := @tm_u16
  have g10 := @tm_u32
  have h := fun w => run_ta_hit (P := Tryd.prog) (t := 22) (by kernel_rfl) 20 (.int .u64 n) w
  go_enter Tryd.func31, Tryd.ntmps31
  go_wp2_with (go_at_call 34; refine (ovf_any _ _ rfl rfl rfl _ _).mono ?_; rintro e w' ⟨rfl, rfl⟩)
  all_goals (go_ret2; exact ⟨rfl, rfl⟩)
end Go.Proofs.YtliopnbkpdfngaaDoor
