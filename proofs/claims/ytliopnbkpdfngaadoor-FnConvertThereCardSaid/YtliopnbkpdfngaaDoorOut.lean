/-
  impl.out by kinds. Conditions: a number is within its kind.
-/
import Derived.Test.YtliopnbkpdfngaaDoorVal
set_option linter.unusedVariables false
set_option linter.unusedSimpArgs false
namespace Go.Proofs.YtliopnbkpdfngaaDoor
open Go.RowKit
set_option maxRecDepth 100000 in
set_option maxHeartbeats 1000000 in
theorem truth_true : Gives 32 #[.bool true] (V ⟨#[98, 111, 111, 108]⟩ 1 0 0 E0) := by
  intro w
  have b1 := @st_float
  go_enter Tryd.func32, Tryd.ntmps32
  go_wp2
  exact bodyPost_ret (v := V ⟨#[98, 111, 111, 108]⟩ 1 0 0 E0) (by simp [results, Tryd.results32, go_sem]) rfl ⟨rfl, (((Below.refl _ _).alloc (Nat.le_refl _) _).alloc (by simp) _)⟩
set_option maxRecDepth 100000 in
set_option maxHeartbeats 1000000 in
theorem truth_false : Gives 32 #[.bool false] (V ⟨#[98, 111, 111, 108]⟩ 0 0 0 E0) := by
  intro w
  have b1 := @st_float
  go_enter Tryd.func32, Tryd.ntmps32
  go_wp2
  exact bodyPost_ret (v := V ⟨#[98, 111, 111, 108]⟩ 0 0 0 E0) (by simp [results, Tryd.results32, go_sem]) rfl ⟨rfl, (((Below.refl _ _).alloc (Nat.le_refl _) _).alloc (by simp) _)⟩
set_option maxRecDepth 100000 in
set_option maxHeartbeats 1000000 in
theorem out_int8 (n : Int) (h1 : -128 ≤ n) (h2 : n ≤ 127) : Gives 30 #[.iface 51 (.int .i8 n)] (V ⟨#[105, 110, 116, 56]⟩ n 0 0 E0) := by
  intro w
  have b1 := @st_float
  have g0 := @tm_bool
  have h := fun w => run_ta_hit (P := Tryd.prog) (t := 51) (by kernel_rfl) 20 (.int .i8 n) w
  go_enter Tryd.func30, Tryd.ntmps30
  go_wp2
  exact bodyPost_ret (v := V ⟨#[105, 110, 116, 56]⟩ n 0 0 E0) (by simp [results, Tryd.results30, go_sem]) rfl ⟨rfl, (Below.refl _ _).alloc (Nat.le_refl _) _⟩
set_option maxRecDepth 100000 in
set_option maxHeartbeats 1000000 in
theorem out_int16 (n : Int) (h1 : -32768 ≤ n) (h2 : n ≤ 32767) : Gives 30 #[.iface 52 (.int .i16 n)] (V ⟨#[105, 110, 116, 49, 54]⟩ n 0 0 E0) := by
  intro w
  have b1 := @st_float
  have g0 := @tm_bool
  have g1 := @tm_i8
  have h := fun w => run_ta_hit (P := Tryd.prog) (t := 52) (by kernel_rfl) 20 (.int .i16 n) w
  go_enter Tryd.func30, Tryd.ntmps30
  go_wp2
  exact bodyPost_ret (v := V ⟨#[105, 110, 116, 49, 54]⟩ n 0 0 E0) (by simp [results, Tryd.results30, go_sem]) rfl ⟨rfl, (Below.refl _ _).alloc (Nat.le_refl _) _⟩
set_option maxRecDepth 100000 in
set_option maxHeartbeats 1000000 in
theorem out_int32 (n : Int) (h1 : -2147483648 ≤ n) (h2 : n ≤ 2147483647) : Gives 30 #[.iface 21 (.int .i32 n)] (V ⟨#[105, 110, 116, 51, 50]⟩ n 0 0 E0) := by
  intro w
  have b1 := @st_float
  have g0 := @tm_bool
  have g1 := @tm_i8
  have g2 := @tm_i16
  have h := fun w => run_ta_hit (P := Tryd.prog) (t := 21) (by kernel_rfl) 20 (.int .i32 n) w
  go_enter Tryd.func30, Tryd.ntmps30
  go_wp2
  exact bodyPost_ret (v := V ⟨#[105, 110, 116, 51, 50]⟩ n 0 0 E0) (by simp [results, Tryd.results30, go_sem]) rfl ⟨rfl, (Below.refl _ _).alloc (Nat.le_refl _) _⟩
set_option maxRecDepth 100000 in
set_option maxHeartbeats 1000000 in
theorem out_int64 (n : Int) : Gives 30 #[.iface 2 (.int .i64 n)] (V ⟨#[105, 110, 116, 54, 52]⟩ n 0 0 E0) := by
  intro w
  have b1 := @st_float
  have g0 := @tm_bool
  have g1 := @tm_i8
  have g2 := @tm_i16
  have g3 := @tm_i32
  have h := fun w => run_ta_hit (P := Tryd.prog) (t := 2) (by kernel_rfl) 20 (.int .i64 n) w
  go_enter Tryd.func30, Tryd.ntmps30
  go_wp2
  exact bodyPost_ret (v := V ⟨#[105, 110, 116, 54, 52]⟩ n 0 0 E0) (by simp [results, Tryd.results30, go_sem]) rfl ⟨rfl, (Below.refl _ _).alloc (Nat.le_refl _) _⟩
set_option maxRecDepth 100000 in
set_option maxHeartbeats 1000000 in
theorem out_uint8 (n : Int) (h1 : 0 ≤ n) (h2 : n ≤ 255) : Gives 30 #[.iface 5 (.int .u8 n)] (V ⟨#[117, 105, 110, 116, 56]⟩ 0 n 0 E0) := by
  intro w
  have b1 := @st_float
  have g0 := @tm_bool
  have g1 := @tm_i8
  have g2 := @tm_i16
  have g3 := @tm_i32
  have g4 := @tm_i64
  have h := fun w => run_ta_hit (P := Tryd.prog) (t := 5) (by kernel_rfl) 20 (.int .u8 n) w
  go_enter Tryd.func30, Tryd.ntmps30
  go_wp2
  exact bodyPost_ret (v := V ⟨#[117, 105, 110, 116, 56]⟩ 0 n 0 E0) (by simp [results, Tryd.results30, go_sem]) rfl ⟨rfl, (Below.refl _ _).alloc (Nat.le_refl _) _⟩
set_option maxRecDepth 100000 in
set_option maxHeartbeats 1000000 in
theorem out_uint16 (n : Int) (h1 : 0 ≤ n) (h2 : n ≤ 65535) : Gives 30 #[.iface 53 (.int .u16 n)] (V ⟨#[117, 105, 110, 116, 49, 54]⟩ 0 n 0 E0) := by
  intro w
  have b1 := @st_float
  have g0 := @tm_bool
  have g1 := @tm_i8
  have g2 := @tm_i16
  have g3 := @tm_i32
  have g4 := @tm_i64
  have g5 := @tm_u8
  have h := fun w => run_ta_hit (P := Tryd.prog) (t := 53) (by kernel_rfl) 20 (.int .u16 n) w
  go_enter Tryd.func30, Tryd.ntmps30
  go_wp2
  exact bodyPost_ret (v := V ⟨#[117, 105, 110, 116, 49, 54]⟩ 0 n 0 E0) (by simp [results, Tryd.results30, go_sem]) rfl ⟨rfl, (Below.refl _ _).alloc (Nat.le_refl _) _⟩
set_option maxRecDepth 100000 in
set_option maxHeartbeats 1000000 in
theorem out_uint32 (n : Int) (h1 : 0 ≤ n) (h2 : n ≤ 4294967295) : Gives 30 #[.iface 54 (.int .u32 n)] (V ⟨#[117, 105, 110, 116, 51, 50]⟩ 0 n 0 E0) := by
  intro w
  have b1 := @st_float
  have g0 := @tm_bool
  have g1 := @tm_i8
  have g2 := @tm_i16
  have g3 := @tm_i32
  have g4 := @tm_i64
  have g5 := @tm_u8
  have g6 := @tm_u16
  have h := fun w => run_ta_hit (P := Tryd.prog) (t := 54) (by kernel_rfl) 20 (.int .u32 n) w
  go_enter Tryd.func30, Tryd.ntmps30
  go_wp2
  exact bodyPost_ret (v := V ⟨#[117, 105, 110, 116, 51, 50]⟩ 0 n 0 E0) (by simp [results, Tryd.results30, go_sem]) rfl ⟨rfl, (Below.refl _ _).alloc (Nat.le_refl _) _⟩
set_option maxRecDepth 100000 in
set_option maxHeartbeats 1000000 in
theorem out_uint64 (n : Int) : Gives 30 #[.iface 22 (.int .u64 n)] (V ⟨#[117, 105, 110, 116, 54, 52]⟩ 0 n 0 E0) := by
  intro w
  have b1 := @st_float
  have g0 := @tm_bool
  have g1 := @tm_i8
  have g2 := @tm_i16
  have g3 := @tm_i32
  have g4 := @tm_i64
  have g5 := @tm_u8
  have g6 := @tm_u16
  have g7 := @tm_u32
  have h := fun w => run_ta_hit (P := Tryd.prog) (t := 22) (by kernel_rfl) 20 (.int .u64 n) w
  go_enter Tryd.func30, Tryd.ntmps30
  go_wp2
  exact bodyPost_ret (v := V ⟨#[117, 105, 110, 116, 54, 52]⟩ 0 n 0 E0) (by simp [results, Tryd.results30, go_sem]) rfl ⟨rfl, (Below.refl _ _).alloc (Nat.le_refl _) _⟩
set_option maxRecDepth 100000 in
set_option maxHeartbeats 1000000 in
theorem out_float64 (x : Nat) : Gives 30 #[.iface 23 (.float .f64 x)] (V ⟨#[102, 108, 111, 97, 116, 54, 52]⟩ 0 0 x E0) := by
  intro w
  have b1 := @st_float
  have g0 := @tm_bool
  have g1 := @tm_i8
  have g2 := @tm_i16
  have g3 := @tm_i32
  have g4 := @tm_i64
  have g5 := @tm_u8
  have g6 := @tm_u16
  have g7 := @tm_u32
  have g8 := @tm_u64
  have g9 := @tm_f32
  have h := fun w => run_ta_hit (P := Tryd.prog) (t := 23) (by kernel_rfl) 20 (.float .f64 x) w
  go_enter Tryd.func30, Tryd.ntmps30
  go_wp2
  exact bodyPost_ret (v := V ⟨#[102, 108, 111, 97, 116, 54, 52]⟩ 0 0 x E0) (by simp [results, Tryd.results30, go_sem]) rfl ⟨rfl, (Below.refl _ _).alloc (Nat.le_refl _) _⟩
set_option maxRecDepth 100000 in
set_option maxHeartbeats 1000000 in
theorem out_string (s : ByteArray) : Gives 30 #[.iface 9 (.string s)] (V ⟨#[115, 116, 114, 105, 110, 103]⟩ 0 0 0 s) := by
  intro w
  have b1 := @st_float
  have g0 := @tm_bool
  have g1 := @tm_i8
  have g2 := @tm_i16
  have g3 := @tm_i32
  have g4 := @tm_i64
  have g5 := @tm_u8
  have g6 := @tm_u16
  have g7 := @tm_u32
  have g8 := @tm_u64
  have g9 := @tm_f32
  have g10 := @tm_f64
  have h := fun w => run_ta_hit (P := Tryd.prog) (t := 9) (by kernel_rfl) 20 (.string s) w
  go_enter Tryd.func30, Tryd.ntmps30
  go_wp2
  exact bodyPost_ret (v := V ⟨#[115, 116, 114, 105, 110, 103]⟩ 0 0 0 s) (by simp [results, Tryd.results30, go_sem]) rfl ⟨rfl, (Below.refl _ _).alloc (Nat.le_refl _) _⟩
set_option maxRecDepth 100000 in
set_option maxHeartbeats 1000000 in
theorem out_bool_true : Gives 30 #[.iface 4 (.bool true)] (V ⟨#[98, 111, 111, 108]⟩ 1 0 0 E0) := by
  intro w
  have b1 := @st_float
  have h := fun w => run_ta_hit (P := Tryd.prog) (t := 4) (by kernel_rfl) 20 (.bool true) w
  go_enter Tryd.func30, Tryd.ntmps30
  go_wp2_with (go_at_call 32; refine (truth_true _).mono ?_; rintro e w1 ⟨rfl, hb⟩; obtain ⟨hc, hf⟩ := bcell hb; have hz : w.heap.size < w1.heap.size := (by have := hb.size; simp at this; omega))
  exact bodyPost_ret (v := V ⟨#[98, 111, 111, 108]⟩ 1 0 0 E0) (by simp [results, Tryd.results30, go_sem, hc, hz]) rfl ⟨rfl, ((((((bl_alloc hb).setCell (Nat.le_refl _) _).setCell (Nat.le_refl _) _).setCell (Nat.le_refl _) _).setCell (Nat.le_refl _) _).setCell (Nat.le_refl _) _)⟩
set_option maxRecDepth 100000 in
set_option maxHeartbeats 1000000 in
theorem out_bool_false : Gives 30 #[.iface 4 (.bool false)] (V ⟨#[98, 111, 111, 108]⟩ 0 0 0 E0) := by
  intro w
  have b1 := @st_float
  have h := fun w => run_ta_hit (P := Tryd.prog) (t := 4) (by kernel_rfl) 20 (.bool false) w
  go_enter Tryd.func30, Tryd.ntmps30
  go_wp2_with (go_at_call 32; refine (truth_false _).mono ?_; rintro e w1 ⟨rfl, hb⟩; obtain ⟨hc, hf⟩ := bcell hb; have hz : w.heap.size < w1.heap.size := (by have := hb.size; simp at this; omega))
  exact bodyPost_ret (v := V ⟨#[98, 111, 111, 108]⟩ 0 0 0 E0) (by simp [results, Tryd.results30, go_sem, hc, hz]) rfl ⟨rfl, ((((((bl_alloc hb).setCell (Nat.le_refl _) _).setCell (Nat.le_refl _) _).setCell (Nat.le_refl _) _).setCell (Nat.le_refl _) _).setCell (Nat.le_refl _) _)⟩
set_option maxRecDepth 100000 in
set_option maxHeartbeats 1000000 in
theorem told_ok (v : Value) (k : ByteArray) (n u : Int) (f : Nat) (s : ByteArray) (H : Gives 30 #[v] (V k n u f s)) : Gives 22 #[v, .nilIface] (.tuple #[V k n u f s, .int .i64 0]) := by
  intro w
  have b1 := @st_float
  go_enter Tryd.func22, Tryd.ntmps22
  go_wp2_with (go_at_call 30; refine (H _).mono ?_; rintro e w1 ⟨rfl, hb⟩; obtain ⟨hc, hf⟩ := bcell hb; have hz : w.heap.size < w1.heap.size := (by have := hb.size; simp at this; omega))
  exact bodyPost_ret (v := .tuple #[V k n u f s, .int .i64 0]) (by simp [results, Tryd.results22, go_sem, hc, hz]) rfl ⟨rfl, ((((((bl_alloc hb).setCell (Nat.le_refl _) _).setCell (Nat.le_refl _) _).setCell (Nat.le_refl _) _).setCell (Nat.le_refl _) _).setCell (Nat.le_refl _) _)⟩
end Go.Proofs.YtliopnbkpdfngaaDoor
