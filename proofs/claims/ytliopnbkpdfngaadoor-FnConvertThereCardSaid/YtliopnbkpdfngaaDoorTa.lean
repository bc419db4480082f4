/-
  Type assertions of interface values of a known dynamic type, and small facts on the program's tables, as equations for the walk. No condition.
-/
import Derived.Test.YtliopnbkpdfngaaDoorRows
import Derived.WalkKit
import Derived.ProofKit
import Derived.WalkSpells
import Derived.WalkLawsBesides
namespace Go.Proofs.YtliopnbkpdfngaaDoor
open Go.RowKit
/-- a bare interface type shows no method, a concrete one is hit by its own number -/
def plainType : Option TypeDesc → Bool
  | some (.interface _) => false
  | some _ => true
  | none => false
theorem run_ta_hit {P : Program} {t : TypeId} (h : plainType (P.underlying t) = true) (x : TypeId) (v : Value) (w : World) :
    (Instr.typeAssert (.iface t v) x t true).run P w = .ok (.tuple #[v, .bool true]) w := by
  cases hu : P.underlying t with
  | none => rw [hu] at h; cases h
  | some d =>
    cases d <;> first
      | (rw [hu] at h; cases h; done)
      | simp [Instr.typeAssert, run_underlying hu]
theorem run_ta_miss {P : Program} {a : TypeId} (h : plainType (P.underlying a) = true) {z : Value} (hz : (P.info? a).map (·.zero) = some (some z)) (x t : TypeId) (ht : (t == a) = false) (v : Value) (w : World) :
    (Instr.typeAssert (.iface t v) x a true).run P w = .ok (.tuple #[z, .bool false]) w := by
  have ht' : ¬ t = a := by simpa using ht
  obtain ⟨j, hj, hz'⟩ := Option.map_eq_some_iff.1 hz
  cases hu : P.underlying a with
  | none => rw [hu] at h; cases h
  | some d =>
    cases d <;> first
      | (rw [hu] at h; cases h; done)
      | simp [Instr.typeAssert, run_underlying hu, ht', zeroValue, typeInfo, hj, hz']
theorem tm_bool (t : TypeId) (ht : (t == 4) = false) (v : Value) (w : World) : (Instr.typeAssert (.iface t v) 20 4 true).run Tryd.prog w = .ok (.tuple #[.bool false, .bool false]) w := run_ta_miss (by kernel_rfl) (by kernel_rfl) _ t ht v w
theorem tm_i8 (t : TypeId) (ht : (t == 51) = false) (v : Value) (w : World) : (Instr.typeAssert (.iface t v) 20 51 true).run Tryd.prog w = .ok (.tuple #[.int .i8 0, .bool false]) w := run_ta_miss (by kernel_rfl) (by kernel_rfl) _ t ht v w
theorem tm_i16 (t : TypeId) (ht : (t == 52) = false) (v : Value) (w : World) : (Instr.typeAssert (.iface t v) 20 52 true).run Tryd.prog w = .ok (.tuple #[.int .i16 0, .bool false]) w := run_ta_miss (by kernel_rfl) (by kernel_rfl) _ t ht v w
theorem tm_i32 (t : TypeId) (ht : (t == 21) = false) (v : Value) (w : World) : (Instr.typeAssert (.iface t v) 20 21 true).run Tryd.prog w = .ok (.tuple #[.int .i32 0, .bool false]) w := run_ta_miss (by kernel_rfl) (by kernel_rfl) _ t ht v w
theorem tm_i64 (t : TypeId) (ht : (t == 2) = false) (v : Value) (w : World) : (Instr.typeAssert (.iface t v) 20 2 true).run Tryd.prog w = .ok (.tuple #[.int .i64 0, .bool false]) w := run_ta_miss (by kernel_rfl) (by kernel_rfl) _ t ht v w
theorem tm_u8 (t : TypeId) (ht : (t == 5) = false) (v : Value) (w : World) : (Instr.typeAssert (.iface t v) 20 5 true).run Tryd.prog w = .ok (.tuple #[.int .u8 0, .bool false]) w := run_ta_miss (by kernel_rfl) (by kernel_rfl) _ t ht v w
theorem tm_u16 (t : TypeId) (ht : (t == 53) = false) (v : Value) (w : World) : (Instr.typeAssert (.iface t v) 20 53 true).run Tryd.prog w = .ok (.tuple #[.int .u16 0, .bool false]) w := run_ta_miss (by kernel_rfl) (by kernel_rfl) _ t ht v w
theorem tm_u32 (t : TypeId) (ht : (t == 54) = false) (v : Value) (w : World) : (Instr.typeAssert (.iface t v) 20 54 true).run Tryd.prog w = .ok (.tuple #[.int .u32 0, .bool false]) w := run_ta_miss (by kernel_rfl) (by kernel_rfl) _ t ht v w
theorem tm_u64 (t : TypeId) (ht : (t == 22) = false) (v : Value) (w : World) : (Instr.typeAssert (.iface t v) 20 22 true).run Tryd.prog w = .ok (.tuple #[.int .u64 0, .bool false]) w := run_ta_miss (by kernel_rfl) (by kernel_rfl) _ t ht v w
theorem tm_f32 (t : TypeId) (ht : (t == 45) = false) (v : Value) (w : World) : (Instr.typeAssert (.iface t v) 20 45 true).run Tryd.prog w = .ok (.tuple #[.float .f32 0, .bool false]) w := run_ta_miss (by kernel_rfl) (by kernel_rfl) _ t ht v w
theorem tm_f64 (t : TypeId) (ht : (t == 23) = false) (v : Value) (w : World) : (Instr.typeAssert (.iface t v) 20 23 true).run Tryd.prog w = .ok (.tuple #[.float .f64 0, .bool false]) w := run_ta_miss (by kernel_rfl) (by kernel_rfl) _ t ht v w
theorem tm_str (t : TypeId) (ht : (t == 9) = false) (v : Value) (w : World) : (Instr.typeAssert (.iface t v) 20 9 true).run Tryd.prog w = .ok (.tuple #[.string ⟨#[]⟩, .bool false]) w := run_ta_miss (by kernel_rfl) (by kernel_rfl) _ t ht v w
theorem tm_blob (t : TypeId) (ht : (t == 43) = false) (v : Value) (w : World) : (Instr.typeAssert (.iface t v) 20 43 true).run Tryd.prog w = .ok (.tuple #[.slice none 0 0, .bool false]) w := run_ta_miss (by kernel_rfl) (by kernel_rfl) _ t ht v w
theorem tm_ii (t : TypeId) (ht : (t == 60) = false) (v : Value) (w : World) : (Instr.typeAssert (.iface t v) 20 60 true).run Tryd.prog w = .ok (.tuple #[.int .i64 0, .bool false]) w := run_ta_miss (by kernel_rfl) (by kernel_rfl) _ t ht v w
theorem tm_ir (t : TypeId) (ht : (t == 61) = false) (v : Value) (w : World) : (Instr.typeAssert (.iface t v) 20 61 true).run Tryd.prog w = .ok (.tuple #[.int .i32 0, .bool false]) w := run_ta_miss (by kernel_rfl) (by kernel_rfl) _ t ht v w
theorem tm_iu (t : TypeId) (ht : (t == 62) = false) (v : Value) (w : World) : (Instr.typeAssert (.iface t v) 20 62 true).run Tryd.prog w = .ok (.tuple #[.int .u64 0, .bool false]) w := run_ta_miss (by kernel_rfl) (by kernel_rfl) _ t ht v w
theorem tm_if (t : TypeId) (ht : (t == 63) = false) (v : Value) (w : World) : (Instr.typeAssert (.iface t v) 20 63 true).run Tryd.prog w = .ok (.tuple #[.float .f64 0, .bool false]) w := run_ta_miss (by kernel_rfl) (by kernel_rfl) _ t ht v w
theorem eq_nil_not (t : TypeId) (v : Value) (w : World) : (Op.equal 20 (.iface t v) .nilIface).run Tryd.prog w = .ok false w := by kernel_rfl
end Go.Proofs.YtliopnbkpdfngaaDoor
