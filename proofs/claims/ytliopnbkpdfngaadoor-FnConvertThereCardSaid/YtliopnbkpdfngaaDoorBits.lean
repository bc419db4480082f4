/-
  laws.bits; words for what a law reads. No condition.
-/
import Derived.Test.YtliopnbkpdfngaaDoorCvt
import Derived.Test.YtliopnbkpdfngaaDoorWid
import Derived.Deep.QuietTactic
import Derived.BigQuiet
set_option linter.unusedVariables false
set_option linter.unusedSimpArgs false
namespace Go.Proofs.YtliopnbkpdfngaaDoor
open Go.RowKit
theorem bl_drewN {B : Nat} {w w' : World} (h : Below B w w') (n : Nat) : Below B w (w'.drewN n) := ⟨h.os, h.tape, h.output, h.size, h.block⟩
theorem Still.quiet {f : FuncId} {args : Array Value} {v : Value} (h : Still f args v) {w : World} {n : Nat} : Calls Tryd.prog f args (w.drewN n) fun e w'' => e = .returned v ∧ ∃ m, w'' = w.drewN m :=
  (h _).mono fun _ _ ⟨he, hw⟩ => ⟨he, n, hw.symm⟩
/-- a call answers some bool, and writes in memory of its own alone; if it is true, so is p -/
def SomeBool (p : Prop) (w : World) (e : Ending) (w' : World) : Prop := ∃ b : Bool, e = .returned (.bool b) ∧ (b = true → p) ∧ Below w.heap.size w w'
def GivesSome (f : FuncId) (args : Array Value) (p : Prop) : Prop := ∀ w, Calls Tryd.prog f args w (SomeBool p w)
theorem Gives.some {f : FuncId} {args : Array Value} {b : Bool} {p : Prop} (h : Gives f args (.bool b)) (hp : b = true → p) : GivesSome f args p :=
  fun w => (h w).mono fun _ _ ⟨he, hw⟩ => ⟨b, he, hp, hw⟩
theorem GivesSome.imp {f : FuncId} {args : Array Value} {p q : Prop} (h : GivesSome f args p) (hp : p → q) : GivesSome f args q :=
  fun w => (h w).mono fun _ _ ⟨b, he, hb, hw⟩ => ⟨b, he, fun e => hp (hb e), hw⟩
theorem empty_of {s : ByteArray} (h : s.toList.isEmpty = true) : s = E0 := by
  rw [← decide_eq_emptyBytes] at h
  exact of_decide_eq_true h
/-- a float's bits, 1 for what is no number -/
def bitsF (f : Nat) : Int := if FloatKind.f64.format.order f f == some .eq then (f : Int) else 1
theorem fb_run (f : Nat) (w : World) : (callFunc 28 #[.float .f64 f]).run Tryd.prog w = .ok (.value (.int .u64 f)) w := by kernel_rfl
theorem bits_any (f : Nat) : Still 20 #[.float .f64 f] (.int .u64 (bitsF f)) := by
  intro w
  have h1 := fb_run f
  have hn : ∀ w, (Op.floatCmp .neq .f64 f f).run Tryd.prog w = .ok (.bool (FloatKind.f64.format.order f f != some .eq)) w := fun _ => rfl
  cases h : (FloatKind.f64.format.order f f != some .eq)
  · rw [show bitsF f = (f : Int) from by unfold bitsF; rw [if_pos (by simpa using h)]]
    rw [h] at hn
    go_enter Tryd.func20, Tryd.ntmps20
    go_wp2
    all_goals (go_ret; exact ⟨rfl, rfl⟩)
  · rw [show bitsF f = 1 from by unfold bitsF; rw [if_neg (by simpa using h)]]
    rw [h] at hn
    go_enter Tryd.func20, Tryd.ntmps20
    go_wp2
    all_goals (go_ret; exact ⟨rfl, rfl⟩)
/-- none of the names of kinds -/
structure Unk (K : ByteArray) : Prop where
  nn : K.toList.isEmpty = false
  n_bool : (K.toList == [98, 111, 111, 108]) = false
  n_int8 : (K.toList == [105, 110, 116, 56]) = false
  n_int16 : (K.toList == [105, 110, 116, 49, 54]) = false
  n_int32 : (K.toList == [105, 110, 116, 51, 50]) = false
  n_int64 : (K.toList == [105, 110, 116, 54, 52]) = false
  n_uint8 : (K.toList == [117, 105, 110, 116, 56]) = false
  n_uint16 : (K.toList == [117, 105, 110, 116, 49, 54]) = false
  n_uint32 : (K.toList == [117, 105, 110, 116, 51, 50]) = false
  n_uint64 : (K.toList == [117, 105, 110, 116, 54, 52]) = false
  n_float32 : (K.toList == [102, 108, 111, 97, 116, 51, 50]) = false
  n_float64 : (K.toList == [102, 108, 111, 97, 116, 54, 52]) = false
  n_string : (K.toList == [115, 116, 114, 105, 110, 103]) = false
  n_blob : (K.toList == [98, 108, 111, 98]) = false
  n_idealInt : (K.toList == [105, 100, 101, 97, 108, 73, 110, 116]) = false
  n_idealRune : (K.toList == [105, 100, 101, 97, 108, 82, 117, 110, 101]) = false
  n_idealUint : (K.toList == [105, 100, 101, 97, 108, 85, 105, 110, 116]) = false
  n_idealFloat : (K.toList == [105, 100, 101, 97, 108, 70, 108, 111, 97, 116]) = false
set_option maxRecDepth 100000 in
set_option maxHeartbeats 1000000 in
theorem width_un {K : ByteArray} (hK : Unk K) (w : World) : Calls Tryd.prog 10 #[.string K] w fun e w' => e = .returned (.tuple #[.int .i64 0, .bool false]) ∧ w = w' := by
  have k0 := hK.n_bool
  have k1 := hK.n_int8
  have k2 := hK.n_int16
  have k3 := hK.n_int32
  have k4 := hK.n_int64
  have k5 := hK.n_uint8
  have k6 := hK.n_uint16
  have k7 := hK.n_uint32
  have k8 := hK.n_uint64
  have k9 := hK.n_float32
  have k10 := hK.n_float64
  have k11 := hK.n_string
  have k12 := hK.n_blob
  have k13 := hK.n_idealInt
  have k14 := hK.n_idealRune
  have k15 := hK.n_idealUint
  have k16 := hK.n_idealFloat
  have kn := hK.nn
  go_enter Tryd.func10, Tryd.ntmps10
  go_wp2
  all_goals (go_ret2; exact ⟨rfl, rfl⟩)
set_option maxRecDepth 100000 in
set_option maxHeartbeats 1000000 in
theorem isFloat_un {K : ByteArray} (hK : Unk K) (w : World) : Calls Tryd.prog 21 #[.string K] w fun e w' => e = .returned (.bool false) ∧ w = w' := by
  have k0 := hK.n_bool
  have k1 := hK.n_int8
  have k2 := hK.n_int16
  have k3 := hK.n_int32
  have k4 := hK.n_int64
  have k5 := hK.n_uint8
  have k6 := hK.n_uint16
  have k7 := hK.n_uint32
  have k8 := hK.n_uint64
  have k9 := hK.n_float32
  have k10 := hK.n_float64
  have k11 := hK.n_string
  have k12 := hK.n_blob
  have k13 := hK.n_idealInt
  have k14 := hK.n_idealRune
  have k15 := hK.n_idealUint
  have k16 := hK.n_idealFloat
  have kn := hK.nn
  go_enter Tryd.func21, Tryd.ntmps21
  go_wp2
  all_goals (go_ret; exact ⟨rfl, rfl⟩)
end Go.Proofs.YtliopnbkpdfngaaDoor
