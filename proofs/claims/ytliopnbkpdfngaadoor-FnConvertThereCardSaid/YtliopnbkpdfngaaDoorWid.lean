/-
  ql.ZZType, laws.width, laws.isIdeal, laws.isFloat at each name. No condition but the name.
-/
import Derived.Test.YtliopnbkpdfngaaDoorVal
set_option linter.unusedVariables false
set_option linter.unusedSimpArgs false
namespace Go.Proofs.YtliopnbkpdfngaaDoor
open Go.RowKit
set_option maxRecDepth 100000 in
set_option maxHeartbeats 1000000 in
theorem ztype_bool (w : World) : Calls Tryd.prog 19 #[.string ⟨#[98, 111, 111, 108]⟩] w fun e w' => e = .returned (.int .i64 98) ∧ w = w' := by
  go_enter Tryd.func19, Tryd.ntmps19
  go_wp2
  all_goals (go_ret; exact ⟨rfl, rfl⟩)
set_option maxRecDepth 100000 in
set_option maxHeartbeats 1000000 in
theorem ztype_int8 (w : World) : Calls Tryd.prog 19 #[.string ⟨#[105, 110, 116, 56]⟩] w fun e w' => e = .returned (.int .i64 105) ∧ w = w' := by
  go_enter Tryd.func19, Tryd.ntmps19
  go_wp2
  all_goals (go_ret; exact ⟨rfl, rfl⟩)
set_option maxRecDepth 100000 in
set_option maxHeartbeats 1000000 in
theorem ztype_int16 (w : World) : Calls Tryd.prog 19 #[.string ⟨#[105, 110, 116, 49, 54]⟩] w fun e w' => e = .returned (.int .i64 106) ∧ w = w' := by
  go_enter Tryd.func19, Tryd.ntmps19
  go_wp2
  all_goals (go_ret; exact ⟨rfl, rfl⟩)
set_option maxRecDepth 100000 in
set_option maxHeartbeats 1000000 in
theorem ztype_int32 (w : World) : Calls Tryd.prog 19 #[.string ⟨#[105, 110, 116, 51, 50]⟩] w fun e w' => e = .returned (.int .i64 107) ∧ w = w' := by
  go_enter Tryd.func19, Tryd.ntmps19
  go_wp2
  all_goals (go_ret; exact ⟨rfl, rfl⟩)
set_option maxRecDepth 100000 in
set_option maxHeartbeats 1000000 in
theorem ztype_int64 (w : World) : Calls Tryd.prog 19 #[.string ⟨#[105, 110, 116, 54, 52]⟩] w fun e w' => e = .returned (.int .i64 108) ∧ w = w' := by
  go_enter Tryd.func19, Tryd.ntmps19
  go_wp2
  all_goals (go_ret; exact ⟨rfl, rfl⟩)
set_option maxRecDepth 100000 in
set_option maxHeartbeats 1000000 in
theorem ztype_uint8 (w : World) : Calls Tryd.prog 19 #[.string ⟨#[117, 105, 110, 116, 56]⟩] w fun e w' => e = .returned (.int .i64 117) ∧ w = w' := by
  go_enter Tryd.func19, Tryd.ntmps19
  go_wp2
  all_goals (go_ret; exact ⟨rfl, rfl⟩)
set_option maxRecDepth 100000 in
set_option maxHeartbeats 1000000 in
theorem ztype_uint16 (w : World) : Calls Tryd.prog 19 #[.string ⟨#[117, 105, 110, 116, 49, 54]⟩] w fun e w' => e = .returned (.int .i64 118) ∧ w = w' := by
  go_enter Tryd.func19, Tryd.ntmps19
  go_wp2
  all_goals (go_ret; exact ⟨rfl, rfl⟩)
set_option maxRecDepth 100000 in
set_option maxHeartbeats 1000000 in
theorem ztype_uint32 (w : World) : Calls Tryd.prog 19 #[.string ⟨#[117, 105, 110, 116, 51, 50]⟩] w fun e w' => e = .returned (.int .i64 119) ∧ w = w' := by
  go_enter Tryd.func19, Tryd.ntmps19
  go_wp2
  all_goals (go_ret; exact ⟨rfl, rfl⟩)
set_option maxRecDepth 100000 in
set_option maxHeartbeats 1000000 in
theorem ztype_uint64 (w : World) : Calls Tryd.prog 19 #[.string ⟨#[117, 105, 110, 116, 54, 52]⟩] w fun e w' => e = .returned (.int .i64 120) ∧ w = w' := by
  go_enter Tryd.func19, Tryd.ntmps19
  go_wp2
  all_goals (go_ret; exact ⟨rfl, rfl⟩)
set_option maxRecDepth 100000 in
set_option maxHeartbeats 1000000 in
theorem ztype_float32 (w : World) : Calls Tryd.prog 19 #[.string ⟨#[102, 108, 111, 97, 116, 51, 50]⟩] w fun e w' => e = .returned (.int .i64 102) ∧ w = w' := by
  go_enter Tryd.func19, Tryd.ntmps19
  go_wp2
  all_goals (go_ret; exact ⟨rfl, rfl⟩)
set_option maxRecDepth 100000 in
set_option maxHeartbeats 1000000 in
theorem ztype_float64 (w : World) : Calls Tryd.prog 19 #[.string ⟨#[102, 108, 111, 97, 116, 54, 52]⟩] w fun e w' => e = .returned (.int .i64 103) ∧ w = w' := by
  go_enter Tryd.func19, Tryd.ntmps19
  go_wp2
  all_goals (go_ret; exact ⟨rfl, rfl⟩)
set_option maxRecDepth 100000 in
set_option maxHeartbeats 1000000 in
theorem ztype_string (w : World) : Calls Tryd.prog 19 #[.string ⟨#[115, 116, 114, 105, 110, 103]⟩] w fun e w' => e = .returned (.int .i64 115) ∧ w = w' := by
  go_enter Tryd.func19, Tryd.ntmps19
  go_wp2
  all_goals (go_ret; exact ⟨rfl, rfl⟩)
set_option maxRecDepth 100000 in
set_option maxHeartbeats 1000000 in
theorem ztype_blob (w : World) : Calls Tryd.prog 19 #[.string ⟨#[98, 108, 111, 98]⟩] w fun e w' => e = .returned (.int .i64 66) ∧ w = w' := by
  go_enter Tryd.func19, Tryd.ntmps19
  go_wp2
  all_goals (go_ret; exact ⟨rfl, rfl⟩)
set_option maxRecDepth 100000 in
set_option maxHeartbeats 1000000 in
theorem width_bool (w : World) : Calls Tryd.prog 10 #[.string ⟨#[98, 111, 111, 108]⟩] w fun e w' => e = .returned (.tuple #[.int .i64 0, .bool false]) ∧ w = w' := by
  go_enter Tryd.func10, Tryd.ntmps10
  go_wp2
  all_goals (go_ret2; exact ⟨rfl, rfl⟩)
set_option maxRecDepth 100000 in
set_option maxHeartbeats 1000000 in
theorem width_int8 (w : World) : Calls Tryd.prog 10 #[.string ⟨#[105, 110, 116, 56]⟩] w fun e w' => e = .returned (.tuple #[.int .i64 8, .bool true]) ∧ w = w' := by
  go_enter Tryd.func10, Tryd.ntmps10
  go_wp2
  all_goals (go_ret2; exact ⟨rfl, rfl⟩)
set_option maxRecDepth 100000 in
set_option maxHeartbeats 1000000 in
theorem width_int16 (w : World) : Calls Tryd.prog 10 #[.string ⟨#[105, 110, 116, 49, 54]⟩] w fun e w' => e = .returned (.tuple #[.int .i64 16, .bool true]) ∧ w = w' := by
  go_enter Tryd.func10, Tryd.ntmps10
  go_wp2
  all_goals (go_ret2; exact ⟨rfl, rfl⟩)
set_option maxRecDepth 100000 in
set_option maxHeartbeats 1000000 in
theorem width_int32 (w : World) : Calls Tryd.prog 10 #[.string ⟨#[105, 110, 116, 51, 50]⟩] w fun e w' => e = .returned (.tuple #[.int .i64 32, .bool true]) ∧ w = w' := by
  go_enter Tryd.func10, Tryd.ntmps10
  go_wp2
  all_goals (go_ret2; exact ⟨rfl, rfl⟩)
set_option maxRecDepth 100000 in
set_option maxHeartbeats 1000000 in
theorem width_int64 (w : World) : Calls Tryd.prog 10 #[.string ⟨#[105, 110, 116, 54, 52]⟩] w fun e w' => e = .returned (.tuple #[.int .i64 64, .bool true]) ∧ w = w' := by
  go_enter Tryd.func10, Tryd.ntmps10
  go_wp2
  all_goals (go_ret2; exact ⟨rfl, rfl⟩)
set_option maxRecDepth 100000 in
set_option maxHeartbeats 1000000 in
theorem width_uint8 (w : World) : Calls Tryd.prog 10 #[.string ⟨#[117, 105, 110, 116, 56]⟩] w fun e w' => e = .returned (.tuple #[.int .i64 8, .bool false]) ∧ w = w' := by
  go_enter Tryd.func10, Tryd.ntmps10
  go_wp2
  all_goals (go_ret2; exact ⟨rfl, rfl⟩)
set_option maxRecDepth 100000 in
set_option maxHeartbeats 1000000 in
theorem width_uint16 (w : World) : Calls Tryd.prog 10 #[.string ⟨#[117, 105, 110, 116, 49, 54]⟩] w fun e w' => e = .returned (.tuple #[.int .i64 16, .bool false]) ∧ w = w' := by
  go_enter Tryd.func10, Tryd.ntmps10
  go_wp2
  all_goals (go_ret2; exact ⟨rfl, rfl⟩)
set_option maxRecDepth 100000 in
set_option maxHeartbeats 1000000 in
theorem width_uint32 (w : World) : Calls Tryd.prog 10 #[.string ⟨#[117, 105, 110, 116, 51, 50]⟩] w fun e w' => e = .returned (.tuple #[.int .i64 32, .bool false]) ∧ w = w' := by
  go_enter Tryd.func10, Tryd.ntmps10
  go_wp2
  all_goals (go_ret2; exact ⟨rfl, rfl⟩)
set_option maxRecDepth 100000 in
set_option maxHeartbeats 1000000 in
theorem width_uint64 (w : World) : Calls Tryd.prog 10 #[.string ⟨#[117, 105, 110, 116, 54, 52]⟩] w fun e w' => e = .returned (.tuple #[.int .i64 64, .bool false]) ∧ w = w' := by
  go_enter Tryd.func10, Tryd.ntmps10
  go_wp2
  all_goals (go_ret2; exact ⟨rfl, rfl⟩)
set_option maxRecDepth 100000 in
set_option maxHeartbeats 1000000 in
theorem width_float32 (w : World) : Calls Tryd.prog 10 #[.string ⟨#[102, 108, 111, 97, 116, 51, 50]⟩] w fun e w' => e = .returned (.tuple #[.int .i64 0, .bool false]) ∧ w = w' := by
  go_enter Tryd.func10, Tryd.ntmps10
  go_wp2
  all_goals (go_ret2; exact ⟨rfl, rfl⟩)
set_option maxRecDepth 100000 in
set_option maxHeartbeats 1000000 in
theorem width_float64 (w : World) : Calls Tryd.prog 10 #[.string ⟨#[102, 108, 111, 97, 116, 54, 52]⟩] w fun e w' => e = .returned (.tuple #[.int .i64 0, .bool false]) ∧ w = w' := by
  go_enter Tryd.func10, Tryd.ntmps10
  go_wp2
  all_goals (go_ret2; exact ⟨rfl, rfl⟩)
set_option maxRecDepth 100000 in
set_option maxHeartbeats 1000000 in
theorem width_string (w : World) : Calls Tryd.prog 10 #[.string ⟨#[115, 116, 114, 105, 110, 103]⟩] w fun e w' => e = .returned (.tuple #[.int .i64 0, .bool false]) ∧ w = w' := by
  go_enter Tryd.func10, Tryd.ntmps10
  go_wp2
  all_goals (go_ret2; exact ⟨rfl, rfl⟩)
set_option maxRecDepth 100000 in
set_option maxHeartbeats 1000000 in
theorem width_blob (w : World) : Calls Tryd.prog 10 #[.string ⟨#[98, 108, 111, 98]⟩] w fun e w' => e = .returned (.tuple #[.int .i64 0, .bool false]) ∧ w = w' := by
  go_enter Tryd.func10, Tryd.ntmps10
  go_wp2
  all_goals (go_ret2; exact ⟨rfl, rfl⟩)
set_option maxRecDepth 100000 in
set_option maxHeartbeats 1000000 in
theorem width_idealInt (w : World) : Calls Tryd.prog 10 #[.string ⟨#[105, 100, 101, 97, 108, 73, 110, 116]⟩] w fun e w' => e = .returned (.tuple #[.int .i64 64, .bool true]) ∧ w = w' := by
  go_enter Tryd.func10, Tryd.ntmps10
  go_wp2
  all_goals (go_ret2; exact ⟨rfl, rfl⟩)
set_option maxRecDepth 100000 in
set_option maxHeartbeats 1000000 in
theorem width_idealRune (w : World) : Calls Tryd.prog 10 #[.string ⟨#[105, 100, 101, 97, 108, 82, 117, 110, 101]⟩] w fun e w' => e = .returned (.tuple #[.int .i64 32, .bool true]) ∧ w = w' := by
  go_enter Tryd.func10, Tryd.ntmps10
  go_wp2
  all_goals (go_ret2; exact ⟨rfl, rfl⟩)
set_option maxRecDepth 100000 in
set_option maxHeartbeats 1000000 in
theorem width_idealUint (w : World) : Calls Tryd.prog 10 #[.string ⟨#[105, 100, 101, 97, 108, 85, 105, 110, 116]⟩] w fun e w' => e = .returned (.tuple #[.int .i64 64, .bool false]) ∧ w = w' := by
  go_enter Tryd.func10, Tryd.ntmps10
  go_wp2
  all_goals (go_ret2; exact ⟨rfl, rfl⟩)
set_option maxRecDepth 100000 in
set_option maxHeartbeats 1000000 in
theorem width_idealFloat (w : World) : Calls Tryd.prog 10 #[.string ⟨#[105, 100, 101, 97, 108, 70, 108, 111, 97, 116]⟩] w fun e w' => e = .returned (.tuple #[.int .i64 0, .bool false]) ∧ w = w' := by
  go_enter Tryd.func10, Tryd.ntmps10
  go_wp2
  all_goals (go_ret2; exact ⟨rfl, rfl⟩)
set_option maxRecDepth 100000 in
set_option maxHeartbeats 1000000 in
theorem width_null (w : World) : Calls Tryd.prog 10 #[.string ⟨#[]⟩] w fun e w' => e = .returned (.tuple #[.int .i64 0, .bool false]) ∧ w = w' := by
  go_enter Tryd.func10, Tryd.ntmps10
  go_wp2
  all_goals (go_ret2; exact ⟨rfl, rfl⟩)
set_option maxRecDepth 100000 in
set_option maxHeartbeats 1000000 in
theorem isIdeal_bool (w : World) : Calls Tryd.prog 15 #[.string ⟨#[98, 111, 111, 108]⟩] w fun e w' => e = .returned (.bool false) ∧ w = w' := by
  go_enter Tryd.func15, Tryd.ntmps15
  go_wp2
  all_goals (go_ret; exact ⟨rfl, rfl⟩)
set_option maxRecDepth 100000 in
set_option maxHeartbeats 1000000 in
theorem isFloat_bool (w : World) : Calls Tryd.prog 21 #[.string ⟨#[98, 111, 111, 108]⟩] w fun e w' => e = .returned (.bool false) ∧ w = w' := by
  go_enter Tryd.func21, Tryd.ntmps21
  go_wp2
  all_goals (go_ret; exact ⟨rfl, rfl⟩)
set_option maxRecDepth 100000 in
set_option maxHeartbeats 1000000 in
theorem isIdeal_int8 (w : World) : Calls Tryd.prog 15 #[.string ⟨#[105, 110, 116, 56]⟩] w fun e w' => e = .returned (.bool false) ∧ w = w' := by
  go_enter Tryd.func15, Tryd.ntmps15
  go_wp2
  all_goals (go_ret; exact ⟨rfl, rfl⟩)
set_option maxRecDepth 100000 in
set_option maxHeartbeats 1000000 in
theorem isFloat_int8 (w : World) : Calls Tryd.prog 21 #[.string ⟨#[105, 110, 116, 56]⟩] w fun e w' => e = .returned (.bool false) ∧ w = w' := by
  go_enter Tryd.func21, Tryd.ntmps21
  go_wp2
  all_goals (go_ret; exact ⟨rfl, rfl⟩)
set_option maxRecDepth 100000 in
set_option maxHeartbeats 1000000 in
theorem isIdeal_int16 (w : World) : Calls Tryd.prog 15 #[.string ⟨#[105, 110, 116, 49, 54]⟩] w fun e w' => e = .returned (.bool false) ∧ w = w' := by
  go_enter Tryd.func15, Tryd.ntmps15
  go_wp2
  all_goals (go_ret; exact ⟨rfl, rfl⟩)
set_option maxRecDepth 100000 in
set_option maxHeartbeats 1000000 in
theorem isFloat_int16 (w : World) : Calls Tryd.prog 21 #[.string ⟨#[105, 110, 116, 49, 54]⟩] w fun e w' => e = .returned (.bool false) ∧ w = w' := by
  go_enter Tryd.func21, Tryd.ntmps21
  go_wp2
  all_goals (go_ret; exact ⟨rfl, rfl⟩)
set_option maxRecDepth 100000 in
set_option maxHeartbeats 1000000 in
theorem isIdeal_int32 (w : World) : Calls Tryd.prog 15 #[.string ⟨#[105, 110, 116, 51, 50]⟩] w fun e w' => e = .returned (.bool false) ∧ w = w' := by
  go_enter Tryd.func15, Tryd.ntmps15
  go_wp2
  all_goals (go_ret; exact ⟨rfl, rfl⟩)
set_option maxRecDepth 100000 in
set_option maxHeartbeats 1000000 in
theorem isFloat_int32 (w : World) : Calls Tryd.prog 21 #[.string ⟨#[105, 110, 116, 51, 50]⟩] w fun e w' => e = .returned (.bool false) ∧ w = w' := by
  go_enter Tryd.func21, Tryd.ntmps21
  go_wp2
  all_goals (go_ret; exact ⟨rfl, rfl⟩)
set_option maxRecDepth 100000 in
set_option maxHeartbeats 1000000 in
theorem isIdeal_int64 (w : World) : Calls Tryd.prog 15 #[.string ⟨#[105, 110, 116, 54, 52]⟩] w fun e w' => e = .returned (.bool false) ∧ w = w' := by
  go_enter Tryd.func15, Tryd.ntmps15
  go_wp2
  all_goals (go_ret; exact ⟨rfl, rfl⟩)
set_option maxRecDepth 100000 in
set_option maxHeartbeats 1000000 in
theorem isFloat_int64 (w : World) : Calls Tryd.prog 21 #[.string ⟨#[105, 110, 116, 54, 52]⟩] w fun e w' => e = .returned (.bool false) ∧ w = w' := by
  go_enter Tryd.func21, Tryd.ntmps21
  go_wp2
  all_goals (go_ret; exact ⟨rfl, rfl⟩)
set_option maxRecDepth 100000 in
set_option maxHeartbeats 1000000 in
theorem isIdeal_uint8 (w : World) : Calls Tryd.prog 15 #[.string ⟨#[117, 105, 110, 116, 56]⟩] w fun e w' => e = .returned (.bool false) ∧ w = w' := by
  go_enter Tryd.func15, Tryd.ntmps15
  go_wp2
  all_goals (go_ret; exact ⟨rfl, rfl⟩)
set_option maxRecDepth 100000 in
set_option maxHeartbeats 1000000 in
theorem isFloat_uint8 (w : World) : Calls Tryd.prog 21 #[.string ⟨#[117, 105, 110, 116, 56]⟩] w fun e w' => e = .returned (.bool false) ∧ w = w' := by
  go_enter Tryd.func21, Tryd.ntmps21
  go_wp2
  all_goals (go_ret; exact ⟨rfl, rfl⟩)
set_option maxRecDepth 100000 in
set_option maxHeartbeats 1000000 in
theorem isIdeal_uint16 (w : World) : Calls Tryd.prog 15 #[.string ⟨#[117, 105, 110, 116, 49, 54]⟩] w fun e w' => e = .returned (.bool false) ∧ w = w' := by
  go_enter Tryd.func15, Tryd.ntmps15
  go_wp2
  all_goals (go_ret; exact ⟨rfl, rfl⟩)
set_option maxRecDepth 100000 in
set_option maxHeartbeats 1000000 in
theorem isFloat_uint16 (w : World) : Calls Tryd.prog 21 #[.string ⟨#[117, 105, 110, 116, 49, 54]⟩] w fun e w' => e = .returned (.bool false) ∧ w = w' := by
  go_enter Tryd.func21, Tryd.ntmps21
  go_wp2
  all_goals (go_ret; exact ⟨rfl, rfl⟩)
set_option maxRecDepth 100000 in
set_option maxHeartbeats 1000000 in
theorem isIdeal_uint32 (w : World) : Calls Tryd.prog 15 #[.string ⟨#[117, 105, 110, 116, 51, 50]⟩] w fun e w' => e = .returned (.bool false) ∧ w = w' := by
  go_enter Tryd.func15, Tryd.ntmps15
  go_wp2
  all_goals (go_ret; exact ⟨rfl, rfl⟩)
set_option maxRecDepth 100000 in
set_option maxHeartbeats 1000000 in
theorem isFloat_uint32 (w : World) : Calls Tryd.prog 21 #[.string ⟨#[117, 105, 110, 116, 51, 50]⟩] w fun e w' => e = .returned (.bool false) ∧ w = w' := by
  go_enter Tryd.func21, Tryd.ntmps21
  go_wp2
  all_goals (go_ret; exact ⟨rfl, rfl⟩)
set_option maxRecDepth 100000 in
set_option maxHeartbeats 1000000 in
theorem isIdeal_uint64 (w : World) : Calls Tryd.prog 15 #[.string ⟨#[117, 105, 110, 116, 54, 52]⟩] w fun e w' => e = .returned (.bool false) ∧ w = w' := by
  go_enter Tryd.func15, Tryd.ntmps15
  go_wp2
  all_goals (go_ret; exact ⟨rfl, rfl⟩)
set_option maxRecDepth 100000 in
set_option maxHeartbeats 1000000 in
theorem isFloat_uint64 (w : World) : Calls Tryd.prog 21 #[.string ⟨#[117, 105, 110, 116, 54, 52]⟩] w fun e w' => e = .returned (.bool false) ∧ w = w' := by
  go_enter Tryd.func21, Tryd.ntmps21
  go_wp2
  all_goals (go_ret; exact ⟨rfl, rfl⟩)
set_option maxRecDepth 100000 in
set_option maxHeartbeats 1000000 in
theorem isIdeal_float32 (w : World) : Calls Tryd.prog 15 #[.string ⟨#[102, 108, 111, 97, 116, 51, 50]⟩] w fun e w' => e = .returned (.bool false) ∧ w = w' := by
  go_enter Tryd.func15, Tryd.ntmps15
  go_wp2
  all_goals (go_ret; exact ⟨rfl, rfl⟩)
set_option maxRecDepth 100000 in
set_option maxHeartbeats 1000000 in
theorem isFloat_float32 (w : World) : Calls Tryd.prog 21 #[.string ⟨#[102, 108, 111, 97, 116, 51, 50]⟩] w fun e w' => e = .returned (.bool true) ∧ w = w' := by
  go_enter Tryd.func21, Tryd.ntmps21
  go_wp2
  all_goals (go_ret; exact ⟨rfl, rfl⟩)
set_option maxRecDepth 100000 in
set_option maxHeartbeats 1000000 in
theorem isIdeal_float64 (w : World) : Calls Tryd.prog 15 #[.string ⟨#[102, 108, 111, 97, 116, 54, 52]⟩] w fun e w' => e = .returned (.bool false) ∧ w = w' := by
  go_enter Tryd.func15, Tryd.ntmps15
  go_wp2
  all_goals (go_ret; exact ⟨rfl, rfl⟩)
set_option maxRecDepth 100000 in
set_option maxHeartbeats 1000000 in
theorem isFloat_float64 (w : World) : Calls Tryd.prog 21 #[.string ⟨#[102, 108, 111, 97, 116, 54, 52]⟩] w fun e w' => e = .returned (.bool true) ∧ w = w' := by
  go_enter Tryd.func21, Tryd.ntmps21
  go_wp2
  all_goals (go_ret; exact ⟨rfl, rfl⟩)
set_option maxRecDepth 100000 in
set_option maxHeartbeats 1000000 in
theorem isIdeal_string (w : World) : Calls Tryd.prog 15 #[.string ⟨#[115, 116, 114, 105, 110, 103]⟩] w fun e w' => e = .returned (.bool false) ∧ w = w' := by
  go_enter Tryd.func15, Tryd.ntmps15
  go_wp2
  all_goals (go_ret; exact ⟨rfl, rfl⟩)
set_option maxRecDepth 100000 in
set_option maxHeartbeats 1000000 in
theorem isFloat_string (w : World) : Calls Tryd.prog 21 #[.string ⟨#[115, 116, 114, 105, 110, 103]⟩] w fun e w' => e = .returned (.bool false) ∧ w = w' := by
  go_enter Tryd.func21, Tryd.ntmps21
  go_wp2
  all_goals (go_ret; exact ⟨rfl, rfl⟩)
set_option maxRecDepth 100000 in
set_option maxHeartbeats 1000000 in
theorem isIdeal_blob (w : World) : Calls Tryd.prog 15 #[.string ⟨#[98, 108, 111, 98]⟩] w fun e w' => e = .returned (.bool false) ∧ w = w' := by
  go_enter Tryd.func15, Tryd.ntmps15
  go_wp2
  all_goals (go_ret; exact ⟨rfl, rfl⟩)
set_option maxRecDepth 100000 in
set_option maxHeartbeats 1000000 in
theorem isFloat_blob (w : World) : Calls Tryd.prog 21 #[.string ⟨#[98, 108, 111, 98]⟩] w fun e w' => e = .returned (.bool false) ∧ w = w' := by
  go_enter Tryd.func21, Tryd.ntmps21
  go_wp2
  all_goals (go_ret; exact ⟨rfl, rfl⟩)
set_option maxRecDepth 100000 in
set_option maxHeartbeats 1000000 in
theorem isIdeal_idealInt (w : World) : Calls Tryd.prog 15 #[.string ⟨#[105, 100, 101, 97, 108, 73, 110, 116]⟩] w fun e w' => e = .returned (.bool true) ∧ w = w' := by
  go_enter Tryd.func15, Tryd.ntmps15
  go_wp2
  all_goals (go_ret; exact ⟨rfl, rfl⟩)
set_option maxRecDepth 100000 in
set_option maxHeartbeats 1000000 in
theorem isFloat_idealInt (w : World) : Calls Tryd.prog 21 #[.string ⟨#[105, 100, 101, 97, 108, 73, 110, 116]⟩] w fun e w' => e = .returned (.bool false) ∧ w = w' := by
  go_enter Tryd.func21, Tryd.ntmps21
  go_wp2
  all_goals (go_ret; exact ⟨rfl, rfl⟩)
set_option maxRecDepth 100000 in
set_option maxHeartbeats 1000000 in
theorem isIdeal_idealRune (w : World) : Calls Tryd.prog 15 #[.string ⟨#[105, 100, 101, 97, 108, 82, 117, 110, 101]⟩] w fun e w' => e = .returned (.bool true) ∧ w = w' := by
  go_enter Tryd.func15, Tryd.ntmps15
  go_wp2
  all_goals (go_ret; exact ⟨rfl, rfl⟩)
set_option maxRecDepth 100000 in
set_option maxHeartbeats 1000000 in
theorem isFloat_idealRune (w : World) : Calls Tryd.prog 21 #[.string ⟨#[105, 100, 101, 97, 108, 82, 117, 110, 101]⟩] w fun e w' => e = .returned (.bool false) ∧ w = w' := by
  go_enter Tryd.func21, Tryd.ntmps21
  go_wp2
  all_goals (go_ret; exact ⟨rfl, rfl⟩)
set_option maxRecDepth 100000 in
set_option maxHeartbeats 1000000 in
theorem isIdeal_idealUint (w : World) : Calls Tryd.prog 15 #[.string ⟨#[105, 100, 101, 97, 108, 85, 105, 110, 116]⟩] w fun e w' => e = .returned (.bool true) ∧ w = w' := by
  go_enter Tryd.func15, Tryd.ntmps15
  go_wp2
  all_goals (go_ret; exact ⟨rfl, rfl⟩)
set_option maxRecDepth 100000 in
set_option maxHeartbeats 1000000 in
theorem isFloat_idealUint (w : World) : Calls Tryd.prog 21 #[.string ⟨#[105, 100, 101, 97, 108, 85, 105, 110, 116]⟩] w fun e w' => e = .returned (.bool false) ∧ w = w' := by
  go_enter Tryd.func21, Tryd.ntmps21
  go_wp2
  all_goals (go_ret; exact ⟨rfl, rfl⟩)
set_option maxRecDepth 100000 in
set_option maxHeartbeats 1000000 in
theorem isIdeal_idealFloat (w : World) : Calls Tryd.prog 15 #[.string ⟨#[105, 100, 101, 97, 108, 70, 108, 111, 97, 116]⟩] w fun e w' => e = .returned (.bool true) ∧ w = w' := by
  go_enter Tryd.func15, Tryd.ntmps15
  go_wp2
  all_goals (go_ret; exact ⟨rfl, rfl⟩)
set_option maxRecDepth 100000 in
set_option maxHeartbeats 1000000 in
theorem isFloat_idealFloat (w : World) : Calls Tryd.prog 21 #[.string ⟨#[105, 100, 101, 97, 108, 70, 108, 111, 97, 116]⟩] w fun e w' => e = .returned (.bool true) ∧ w = w' := by
  go_enter Tryd.func21, Tryd.ntmps21
  go_wp2
  all_goals (go_ret; exact ⟨rfl, rfl⟩)
set_option maxRecDepth 100000 in
set_option maxHeartbeats 1000000 in
theorem isIdeal_null (w : World) : Calls Tryd.prog 15 #[.string ⟨#[]⟩] w fun e w' => e = .returned (.bool false) ∧ w = w' := by
  go_enter Tryd.func15, Tryd.ntmps15
  go_wp2
  all_goals (go_ret; exact ⟨rfl, rfl⟩)
set_option maxRecDepth 100000 in
set_option maxHeartbeats 1000000 in
theorem isFloat_null (w : World) : Calls Tryd.prog 21 #[.string ⟨#[]⟩] w fun e w' => e = .returned (.bool false) ∧ w = w' := by
  go_enter Tryd.func21, Tryd.ntmps21
  go_wp2
  all_goals (go_ret; exact ⟨rfl, rfl⟩)
end Go.Proofs.YtliopnbkpdfngaaDoor
