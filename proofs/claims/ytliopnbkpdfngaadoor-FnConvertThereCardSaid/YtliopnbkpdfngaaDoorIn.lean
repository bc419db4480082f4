/-
  impl.in by kinds. No condition but the kind.
-/
import Derived.Test.YtliopnbkpdfngaaDoorVal
set_option linter.unusedVariables false
set_option linter.unusedSimpArgs false
namespace Go.Proofs.YtliopnbkpdfngaaDoor
open Go.RowKit
set_option maxRecDepth 100000 in
set_option maxHeartbeats 1000000 in
theorem in_bool (n u : Int) (f : Nat) (s : ByteArray) : Gives 18 #[V ⟨#[98, 111, 111, 108]⟩ n u f s] (.iface 4 (.bool (n != 0))) := by
  intro w
  go_enter Tryd.func18, Tryd.ntmps18
  go_wp2
  all_goals (go_ret; exact ⟨rfl, (Below.refl _ _).alloc (Nat.le_refl _) _⟩)
set_option maxRecDepth 100000 in
set_option maxHeartbeats 1000000 in
theorem in_int8 (n u : Int) (f : Nat) (s : ByteArray) : Gives 18 #[V ⟨#[105, 110, 116, 56]⟩ n u f s] (.iface 51 (.int .i8 (IntKind.i8.wrap n))) := by
  intro w
  go_enter Tryd.func18, Tryd.ntmps18
  go_wp2
  all_goals (go_ret; exact ⟨rfl, (Below.refl _ _).alloc (Nat.le_refl _) _⟩)
set_option maxRecDepth 100000 in
set_option maxHeartbeats 1000000 in
theorem in_int16 (n u : Int) (f : Nat) (s : ByteArray) : Gives 18 #[V ⟨#[105, 110, 116, 49, 54]⟩ n u f s] (.iface 52 (.int .i16 (IntKind.i16.wrap n))) := by
  intro w
  go_enter Tryd.func18, Tryd.ntmps18
  go_wp2
  all_goals (go_ret; exact ⟨rfl, (Below.refl _ _).alloc (Nat.le_refl _) _⟩)
set_option maxRecDepth 100000 in
set_option maxHeartbeats 1000000 in
theorem in_int32 (n u : Int) (f : Nat) (s : ByteArray) : Gives 18 #[V ⟨#[105, 110, 116, 51, 50]⟩ n u f s] (.iface 21 (.int .i32 (wrap32 n))) := by
  intro w
  go_enter Tryd.func18, Tryd.ntmps18
  go_wp2
  all_goals (go_ret; exact ⟨rfl, (Below.refl _ _).alloc (Nat.le_refl _) _⟩)
set_option maxRecDepth 100000 in
set_option maxHeartbeats 1000000 in
theorem in_int64 (n u : Int) (f : Nat) (s : ByteArray) : Gives 18 #[V ⟨#[105, 110, 116, 54, 52]⟩ n u f s] (.iface 2 (.int .i64 n)) := by
  intro w
  go_enter Tryd.func18, Tryd.ntmps18
  go_wp2
  all_goals (go_ret; exact ⟨rfl, (Below.refl _ _).alloc (Nat.le_refl _) _⟩)
set_option maxRecDepth 100000 in
set_option maxHeartbeats 1000000 in
theorem in_uint8 (n u : Int) (f : Nat) (s : ByteArray) : Gives 18 #[V ⟨#[117, 105, 110, 116, 56]⟩ n u f s] (.iface 5 (.int .u8 (IntKind.u8.wrap u))) := by
  intro w
  go_enter Tryd.func18, Tryd.ntmps18
  go_wp2
  all_goals (go_ret; exact ⟨rfl, (Below.refl _ _).alloc (Nat.le_refl _) _⟩)
set_option maxRecDepth 100000 in
set_option maxHeartbeats 1000000 in
theorem in_uint16 (n u : Int) (f : Nat) (s : ByteArray) : Gives 18 #[V ⟨#[117, 105, 110, 116, 49, 54]⟩ n u f s] (.iface 53 (.int .u16 (IntKind.u16.wrap u))) := by
  intro w
  go_enter Tryd.func18, Tryd.ntmps18
  go_wp2
  all_goals (go_ret; exact ⟨rfl, (Below.refl _ _).alloc (Nat.le_refl _) _⟩)
set_option maxRecDepth 100000 in
set_option maxHeartbeats 1000000 in
theorem in_uint32 (n u : Int) (f : Nat) (s : ByteArray) : Gives 18 #[V ⟨#[117, 105, 110, 116, 51, 50]⟩ n u f s] (.iface 54 (.int .u32 (IntKind.u32.wrap u))) := by
  intro w
  go_enter Tryd.func18, Tryd.ntmps18
  go_wp2
  all_goals (go_ret; exact ⟨rfl, (Below.refl _ _).alloc (Nat.le_refl _) _⟩)
set_option maxRecDepth 100000 in
set_option maxHeartbeats 1000000 in
theorem in_uint64 (n u : Int) (f : Nat) (s : ByteArray) : Gives 18 #[V ⟨#[117, 105, 110, 116, 54, 52]⟩ n u f s] (.iface 22 (.int .u64 u)) := by
  intro w
  go_enter Tryd.func18, Tryd.ntmps18
  go_wp2
  all_goals (go_ret; exact ⟨rfl, (Below.refl _ _).alloc (Nat.le_refl _) _⟩)
set_option maxRecDepth 100000 in
set_option maxHeartbeats 1000000 in
theorem in_float64 (n u : Int) (f : Nat) (s : ByteArray) : Gives 18 #[V ⟨#[102, 108, 111, 97, 116, 54, 52]⟩ n u f s] (.iface 23 (.float .f64 f)) := by
  intro w
  go_enter Tryd.func18, Tryd.ntmps18
  go_wp2
  all_goals (go_ret; exact ⟨rfl, (Below.refl _ _).alloc (Nat.le_refl _) _⟩)
set_option maxRecDepth 100000 in
set_option maxHeartbeats 1000000 in
theorem in_string (n u : Int) (f : Nat) (s : ByteArray) : Gives 18 #[V ⟨#[115, 116, 114, 105, 110, 103]⟩ n u f s] (.iface 9 (.string s)) := by
  intro w
  go_enter Tryd.func18, Tryd.ntmps18
  go_wp2
  all_goals (go_ret; exact ⟨rfl, (Below.refl _ _).alloc (Nat.le_refl _) _⟩)
set_option maxRecDepth 100000 in
set_option maxHeartbeats 1000000 in
theorem in_null (n u : Int) (f : Nat) (s : ByteArray) : Gives 18 #[V ⟨#[]⟩ n u f s] (.nilIface) := by
  intro w
  go_enter Tryd.func18, Tryd.ntmps18
  go_wp2
  all_goals (go_ret; exact ⟨rfl, (Below.refl _ _).alloc (Nat.le_refl _) _⟩)
end Go.Proofs.YtliopnbkpdfngaaDoor
