/-
  laws.concrete by kinds. No condition but the kind.
-/
import Derived.Test.YtliopnbkpdfngaaDoorVldS
import Derived.Test.YtliopnbkpdfngaaDoorVldI
import Derived.Test.YtliopnbkpdfngaaDoorVldU
import Derived.Test.YtliopnbkpdfngaaDoorVldF
import Derived.Test.YtliopnbkpdfngaaDoorVldT
import Derived.Test.YtliopnbkpdfngaaDoorVldG
import Derived.Lib.Hide
set_option linter.unusedVariables false
set_option linter.unusedSimpArgs false
namespace Go.Proofs.YtliopnbkpdfngaaDoor
open Go.RowKit
set_option maxRecDepth 100000 in
set_option maxHeartbeats 4000000 in
theorem concrete_bool (n u : Int) (f : Nat) (s : ByteArray) : GivesSome 8 #[V ⟨#[98, 111, 111, 108]⟩ n u f s] ((u = 0 ∧ bitsF f = 0 ∧ s = E0 ∧ (n = 0 ∨ n = 1)) ∧ (FloatKind.f64.format.order f f == some .eq) = true) := by
  intro w
  go_enter Tryd.func8, Tryd.ntmps8
  go_wp2_with fail
  refine (valid_bool n u f s _).mono ?_
  rintro e w1 ⟨b, rfl, hP, hb⟩
  obtain ⟨hc, hf⟩ := bcell hb
  have hz : w.heap.size < w1.heap.size := (by have := hb.size; simp at this; omega)
  have HP := Lib.hid hP
  clear hP
  cases b
  all_goals go_wp2_with (go_at_call 15; refine (isIdeal_bool _).mono ?_; rintro e w2 ⟨rfl, rfl⟩)
  all_goals go_ret
  · exact ⟨false, rfl, (fun h => by cases h), bl_alloc hb⟩
  · exact ⟨_, rfl, fun h => ⟨HP.out (by first | trivial | rfl), h⟩, bl_alloc hb⟩
set_option maxRecDepth 100000 in
set_option maxHeartbeats 4000000 in
theorem concrete_int8 (n u : Int) (f : Nat) (s : ByteArray) : GivesSome 8 #[V ⟨#[105, 110, 116, 56]⟩ n u f s] ((u = 0 ∧ bitsF f = 0 ∧ s = E0 ∧ n / 128 = n / 9223372036854775808) ∧ (FloatKind.f64.format.order f f == some .eq) = true) := by
  intro w
  go_enter Tryd.func8, Tryd.ntmps8
  go_wp2_with fail
  refine (valid_int8 n u f s _).mono ?_
  rintro e w1 ⟨b, rfl, hP, hb⟩
  obtain ⟨hc, hf⟩ := bcell hb
  have hz : w.heap.size < w1.heap.size := (by have := hb.size; simp at this; omega)
  have HP := Lib.hid hP
  clear hP
  cases b
  all_goals go_wp2_with (go_at_call 15; refine (isIdeal_int8 _).mono ?_; rintro e w2 ⟨rfl, rfl⟩)
  all_goals go_ret
  · exact ⟨false, rfl, (fun h => by cases h), bl_alloc hb⟩
  · exact ⟨_, rfl, fun h => ⟨HP.out (by first | trivial | rfl), h⟩, bl_alloc hb⟩
set_option maxRecDepth 100000 in
set_option maxHeartbeats 4000000 in
theorem concrete_int16 (n u : Int) (f : Nat) (s : ByteArray) : GivesSome 8 #[V ⟨#[105, 110, 116, 49, 54]⟩ n u f s] ((u = 0 ∧ bitsF f = 0 ∧ s = E0 ∧ n / 32768 = n / 9223372036854775808) ∧ (FloatKind.f64.format.order f f == some .eq) = true) := by
  intro w
  go_enter Tryd.func8, Tryd.ntmps8
  go_wp2_with fail
  refine (valid_int16 n u f s _).mono ?_
  rintro e w1 ⟨b, rfl, hP, hb⟩
  obtain ⟨hc, hf⟩ := bcell hb
  have hz : w.heap.size < w1.heap.size := (by have := hb.size; simp at this; omega)
  have HP := Lib.hid hP
  clear hP
  cases b
  all_goals go_wp2_with (go_at_call 15; refine (isIdeal_int16 _).mono ?_; rintro e w2 ⟨rfl, rfl⟩)
  all_goals go_ret
  · exact ⟨false, rfl, (fun h => by cases h), bl_alloc hb⟩
  · exact ⟨_, rfl, fun h => ⟨HP.out (by first | trivial | rfl), h⟩, bl_alloc hb⟩
set_option maxRecDepth 100000 in
set_option maxHeartbeats 4000000 in
theorem concrete_int32 (n u : Int) (f : Nat) (s : ByteArray) : GivesSome 8 #[V ⟨#[105, 110, 116, 51, 50]⟩ n u f s] ((u = 0 ∧ bitsF f = 0 ∧ s = E0 ∧ n / 2147483648 = n / 9223372036854775808) ∧ (FloatKind.f64.format.order f f == some .eq) = true) := by
  intro w
  go_enter Tryd.func8, Tryd.ntmps8
  go_wp2_with fail
  refine (valid_int32 n u f s _).mono ?_
  rintro e w1 ⟨b, rfl, hP, hb⟩
  obtain ⟨hc, hf⟩ := bcell hb
  have hz : w.heap.size < w1.heap.size := (by have := hb.size; simp at this; omega)
  have HP := Lib.hid hP
  clear hP
  cases b
  all_goals go_wp2_with (go_at_call 15; refine (isIdeal_int32 _).mono ?_; rintro e w2 ⟨rfl, rfl⟩)
  all_goals go_ret
  · exact ⟨false, rfl, (fun h => by cases h), bl_alloc hb⟩
  · exact ⟨_, rfl, fun h => ⟨HP.out (by first | trivial | rfl), h⟩, bl_alloc hb⟩
set_option maxRecDepth 100000 in
set_option maxHeartbeats 4000000 in
theorem concrete_int64 (n u : Int) (f : Nat) (s : ByteArray) : GivesSome 8 #[V ⟨#[105, 110, 116, 54, 52]⟩ n u f s] ((u = 0 ∧ bitsF f = 0 ∧ s = E0) ∧ (FloatKind.f64.format.order f f == some .eq) = true) := by
  intro w
  go_enter Tryd.func8, Tryd.ntmps8
  go_wp2_with fail
  refine (valid_int64 n u f s _).mono ?_
  rintro e w1 ⟨b, rfl, hP, hb⟩
  obtain ⟨hc, hf⟩ := bcell hb
  have hz : w.heap.size < w1.heap.size := (by have := hb.size; simp at this; omega)
  have HP := Lib.hid hP
  clear hP
  cases b
  all_goals go_wp2_with (go_at_call 15; refine (isIdeal_int64 _).mono ?_; rintro e w2 ⟨rfl, rfl⟩)
  all_goals go_ret
  · exact ⟨false, rfl, (fun h => by cases h), bl_alloc hb⟩
  · exact ⟨_, rfl, fun h => ⟨HP.out (by first | trivial | rfl), h⟩, bl_alloc hb⟩
set_option maxRecDepth 100000 in
set_option maxHeartbeats 4000000 in
theorem concrete_uint8 (n u : Int) (f : Nat) (s : ByteArray) : GivesSome 8 #[V ⟨#[117, 105, 110, 116, 56]⟩ n u f s] ((n = 0 ∧ bitsF f = 0 ∧ s = E0 ∧ u / 256 = 0) ∧ (FloatKind.f64.format.order f f == some .eq) = true) := by
  intro w
  go_enter Tryd.func8, Tryd.ntmps8
  go_wp2_with fail
  refine (valid_uint8 n u f s _).mono ?_
  rintro e w1 ⟨b, rfl, hP, hb⟩
  obtain ⟨hc, hf⟩ := bcell hb
  have hz : w.heap.size < w1.heap.size := (by have := hb.size; simp at this; omega)
  have HP := Lib.hid hP
  clear hP
  cases b
  all_goals go_wp2_with (go_at_call 15; refine (isIdeal_uint8 _).mono ?_; rintro e w2 ⟨rfl, rfl⟩)
  all_goals go_ret
  · exact ⟨false, rfl, (fun h => by cases h), bl_alloc hb⟩
  · exact ⟨_, rfl, fun h => ⟨HP.out (by first | trivial | rfl), h⟩, bl_alloc hb⟩
set_option maxRecDepth 100000 in
set_option maxHeartbeats 4000000 in
theorem concrete_uint16 (n u : Int) (f : Nat) (s : ByteArray) : GivesSome 8 #[V ⟨#[117, 105, 110, 116, 49, 54]⟩ n u f s] ((n = 0 ∧ bitsF f = 0 ∧ s = E0 ∧ u / 65536 = 0) ∧ (FloatKind.f64.format.order f f == some .eq) = true) := by
  intro w
  go_enter Tryd.func8, Tryd.ntmps8
  go_wp2_with fail
  refine (valid_uint16 n u f s _).mono ?_
  rintro e w1 ⟨b, rfl, hP, hb⟩
  obtain ⟨hc, hf⟩ := bcell hb
  have hz : w.heap.size < w1.heap.size := (by have := hb.size; simp at this; omega)
  have HP := Lib.hid hP
  clear hP
  cases b
  all_goals go_wp2_with (go_at_call 15; refine (isIdeal_uint16 _).mono ?_; rintro e w2 ⟨rfl, rfl⟩)
  all_goals go_ret
  · exact ⟨false, rfl, (fun h => by cases h), bl_alloc hb⟩
  · exact ⟨_, rfl, fun h => ⟨HP.out (by first | trivial | rfl), h⟩, bl_alloc hb⟩
set_option maxRecDepth 100000 in
set_option maxHeartbeats 4000000 in
theorem concrete_uint32 (n u : Int) (f : Nat) (s : ByteArray) : GivesSome 8 #[V ⟨#[117, 105, 110, 116, 51, 50]⟩ n u f s] ((n = 0 ∧ bitsF f = 0 ∧ s = E0 ∧ u / 4294967296 = 0) ∧ (FloatKind.f64.format.order f f == some .eq) = true) := by
  intro w
  go_enter Tryd.func8, Tryd.ntmps8
  go_wp2_with fail
  refine (valid_uint32 n u f s _).mono ?_
  rintro e w1 ⟨b, rfl, hP, hb⟩
  obtain ⟨hc, hf⟩ := bcell hb
  have hz : w.heap.size < w1.heap.size := (by have := hb.size; simp at this; omega)
  have HP := Lib.hid hP
  clear hP
  cases b
  all_goals go_wp2_with (go_at_call 15; refine (isIdeal_uint32 _).mono ?_; rintro e w2 ⟨rfl, rfl⟩)
  all_goals go_ret
  · exact ⟨false, rfl, (fun h => by cases h), bl_alloc hb⟩
  · exact ⟨_, rfl, fun h => ⟨HP.out (by first | trivial | rfl), h⟩, bl_alloc hb⟩
set_option maxRecDepth 100000 in
set_option maxHeartbeats 4000000 in
theorem concrete_uint64 (n u : Int) (f : Nat) (s : ByteArray) : GivesSome 8 #[V ⟨#[117, 105, 110, 116, 54, 52]⟩ n u f s] ((n = 0 ∧ bitsF f = 0 ∧ s = E0) ∧ (FloatKind.f64.format.order f f == some .eq) = true) := by
  intro w
  go_enter Tryd.func8, Tryd.ntmps8
  go_wp2_with fail
  refine (valid_uint64 n u f s _).mono ?_
  rintro e w1 ⟨b, rfl, hP, hb⟩
  obtain ⟨hc, hf⟩ := bcell hb
  have hz : w.heap.size < w1.heap.size := (by have := hb.size; simp at this; omega)
  have HP := Lib.hid hP
  clear hP
  cases b
  all_goals go_wp2_with (go_at_call 15; refine (isIdeal_uint64 _).mono ?_; rintro e w2 ⟨rfl, rfl⟩)
  all_goals go_ret
  · exact ⟨false, rfl, (fun h => by cases h), bl_alloc hb⟩
  · exact ⟨_, rfl, fun h => ⟨HP.out (by first | trivial | rfl), h⟩, bl_alloc hb⟩
set_option maxRecDepth 100000 in
set_option maxHeartbeats 4000000 in
theorem concrete_float32 (n u : Int) (f : Nat) (s : ByteArray) : GivesSome 8 #[V ⟨#[102, 108, 111, 97, 116, 51, 50]⟩ n u f s] ((n = 0 ∧ u = 0 ∧ s = E0 ∧ ∃ w1 w2, bitsF (widV (narV f w1) w2) = bitsF f) ∧ (FloatKind.f64.format.order f f == some .eq) = true) := by
  intro w
  go_enter Tryd.func8, Tryd.ntmps8
  go_wp2_with fail
  refine (valid_float32 n u f s _).mono ?_
  rintro e w1 ⟨b, rfl, hP, hb⟩
  obtain ⟨hc, hf⟩ := bcell hb
  have hz : w.heap.size < w1.heap.size := (by have := hb.size; simp at this; omega)
  have HP := Lib.hid hP
  clear hP
  cases b
  all_goals go_wp2_with (go_at_call 15; refine (isIdeal_float32 _).mono ?_; rintro e w2 ⟨rfl, rfl⟩)
  all_goals go_ret
  · exact ⟨false, rfl, (fun h => by cases h), bl_alloc hb⟩
  · exact ⟨_, rfl, fun h => ⟨HP.out (by first | trivial | rfl), h⟩, bl_alloc hb⟩
set_option maxRecDepth 100000 in
set_option maxHeartbeats 4000000 in
theorem concrete_float64 (n u : Int) (f : Nat) (s : ByteArray) : GivesSome 8 #[V ⟨#[102, 108, 111, 97, 116, 54, 52]⟩ n u f s] ((n = 0 ∧ u = 0 ∧ s = E0) ∧ (FloatKind.f64.format.order f f == some .eq) = true) := by
  intro w
  go_enter Tryd.func8, Tryd.ntmps8
  go_wp2_with fail
  refine (valid_float64 n u f s _).mono ?_
  rintro e w1 ⟨b, rfl, hP, hb⟩
  obtain ⟨hc, hf⟩ := bcell hb
  have hz : w.heap.size < w1.heap.size := (by have := hb.size; simp at this; omega)
  have HP := Lib.hid hP
  clear hP
  cases b
  all_goals go_wp2_with (go_at_call 15; refine (isIdeal_float64 _).mono ?_; rintro e w2 ⟨rfl, rfl⟩)
  all_goals go_ret
  · exact ⟨false, rfl, (fun h => by cases h), bl_alloc hb⟩
  · exact ⟨_, rfl, fun h => ⟨HP.out (by first | trivial | rfl), h⟩, bl_alloc hb⟩
set_option maxRecDepth 100000 in
set_option maxHeartbeats 4000000 in
theorem concrete_string (n u : Int) (f : Nat) (s : ByteArray) : GivesSome 8 #[V ⟨#[115, 116, 114, 105, 110, 103]⟩ n u f s] ((n = 0 ∧ u = 0 ∧ bitsF f = 0 ∧ s.size ≤ 65536) ∧ (FloatKind.f64.format.order f f == some .eq) = true) := by
  intro w
  go_enter Tryd.func8, Tryd.ntmps8
  go_wp2_with fail
  refine (valid_string n u f s _).mono ?_
  rintro e w1 ⟨b, rfl, hP, hb⟩
  obtain ⟨hc, hf⟩ := bcell hb
  have hz : w.heap.size < w1.heap.size := (by have := hb.size; simp at this; omega)
  have HP := Lib.hid hP
  clear hP
  cases b
  all_goals go_wp2_with (go_at_call 15; refine (isIdeal_string _).mono ?_; rintro e w2 ⟨rfl, rfl⟩)
  all_goals go_ret
  · exact ⟨false, rfl, (fun h => by cases h), bl_alloc hb⟩
  · exact ⟨_, rfl, fun h => ⟨HP.out (by first | trivial | rfl), h⟩, bl_alloc hb⟩
set_option maxRecDepth 100000 in
set_option maxHeartbeats 4000000 in
theorem concrete_blob (n u : Int) (f : Nat) (s : ByteArray) : GivesSome 8 #[V ⟨#[98, 108, 111, 98]⟩ n u f s] ((n = 0 ∧ u = 0 ∧ bitsF f = 0 ∧ s.size ≤ 65536) ∧ (FloatKind.f64.format.order f f == some .eq) = true) := by
  intro w
  go_enter Tryd.func8, Tryd.ntmps8
  go_wp2_with fail
  refine (valid_blob n u f s _).mono ?_
  rintro e w1 ⟨b, rfl, hP, hb⟩
  obtain ⟨hc, hf⟩ := bcell hb
  have hz : w.heap.size < w1.heap.size := (by have := hb.size; simp at this; omega)
  have HP := Lib.hid hP
  clear hP
  cases b
  all_goals go_wp2_with (go_at_call 15; refine (isIdeal_blob _).mono ?_; rintro e w2 ⟨rfl, rfl⟩)
  all_goals go_ret
  · exact ⟨false, rfl, (fun h => by cases h), bl_alloc hb⟩
  · exact ⟨_, rfl, fun h => ⟨HP.out (by first | trivial | rfl), h⟩, bl_alloc hb⟩
set_option maxRecDepth 100000 in
set_option maxHeartbeats 4000000 in
theorem concrete_idealInt (n u : Int) (f : Nat) (s : ByteArray) : GivesSome 8 #[V ⟨#[105, 100, 101, 97, 108, 73, 110, 116]⟩ n u f s] (False) := by
  intro w
  go_enter Tryd.func8, Tryd.ntmps8
  go_wp2_with fail
  refine (valid_idealInt n u f s _).mono ?_
  rintro e w1 ⟨b, rfl, hP, hb⟩
  obtain ⟨hc, hf⟩ := bcell hb
  have hz : w.heap.size < w1.heap.size := (by have := hb.size; simp at this; omega)
  have HP := Lib.hid hP
  clear hP
  cases b
  all_goals go_wp2_with (go_at_call 15; refine (isIdeal_idealInt _).mono ?_; rintro e w2 ⟨rfl, rfl⟩)
  all_goals go_ret
  · exact ⟨false, rfl, (fun h => by cases h), bl_alloc hb⟩
  · exact ⟨false, rfl, (fun h => by cases h), bl_alloc hb⟩
set_option maxRecDepth 100000 in
set_option maxHeartbeats 4000000 in
theorem concrete_idealRune (n u : Int) (f : Nat) (s : ByteArray) : GivesSome 8 #[V ⟨#[105, 100, 101, 97, 108, 82, 117, 110, 101]⟩ n u f s] (False) := by
  intro w
  go_enter Tryd.func8, Tryd.ntmps8
  go_wp2_with fail
  refine (valid_idealRune n u f s _).mono ?_
  rintro e w1 ⟨b, rfl, hP, hb⟩
  obtain ⟨hc, hf⟩ := bcell hb
  have hz : w.heap.size < w1.heap.size := (by have := hb.size; simp at this; omega)
  have HP := Lib.hid hP
  clear hP
  cases b
  all_goals go_wp2_with (go_at_call 15; refine (isIdeal_idealRune _).mono ?_; rintro e w2 ⟨rfl, rfl⟩)
  all_goals go_ret
  · exact ⟨false, rfl, (fun h => by cases h), bl_alloc hb⟩
  · exact ⟨false, rfl, (fun h => by cases h), bl_alloc hb⟩
set_option maxRecDepth 100000 in
set_option maxHeartbeats 4000000 in
theorem concrete_idealUint (n u : Int) (f : Nat) (s : ByteArray) : GivesSome 8 #[V ⟨#[105, 100, 101, 97, 108, 85, 105, 110, 116]⟩ n u f s] (False) := by
  intro w
  go_enter Tryd.func8, Tryd.ntmps8
  go_wp2_with fail
  refine (valid_idealUint n u f s _).mono ?_
  rintro e w1 ⟨b, rfl, hP, hb⟩
  obtain ⟨hc, hf⟩ := bcell hb
  have hz : w.heap.size < w1.heap.size := (by have := hb.size; simp at this; omega)
  have HP := Lib.hid hP
  clear hP
  cases b
  all_goals go_wp2_with (go_at_call 15; refine (isIdeal_idealUint _).mono ?_; rintro e w2 ⟨rfl, rfl⟩)
  all_goals go_ret
  · exact ⟨false, rfl, (fun h => by cases h), bl_alloc hb⟩
  · exact ⟨false, rfl, (fun h => by cases h), bl_alloc hb⟩
set_option maxRecDepth 100000 in
set_option maxHeartbeats 4000000 in
theorem concrete_idealFloat (n u : Int) (f : Nat) (s : ByteArray) : GivesSome 8 #[V ⟨#[105, 100, 101, 97, 108, 70, 108, 111, 97, 116]⟩ n u f s] (False) := by
  intro w
  go_enter Tryd.func8, Tryd.ntmps8
  go_wp2_with fail
  refine (valid_idealFloat n u f s _).mono ?_
  rintro e w1 ⟨b, rfl, hP, hb⟩
  obtain ⟨hc, hf⟩ := bcell hb
  have hz : w.heap.size < w1.heap.size := (by have := hb.size; simp at this; omega)
  have HP := Lib.hid hP
  clear hP
  cases b
  all_goals go_wp2_with (go_at_call 15; refine (isIdeal_idealFloat _).mono ?_; rintro e w2 ⟨rfl, rfl⟩)
  all_goals go_ret
  · exact ⟨false, rfl, (fun h => by cases h), bl_alloc hb⟩
  · exact ⟨false, rfl, (fun h => by cases h), bl_alloc hb⟩
set_option maxRecDepth 100000 in
set_option maxHeartbeats 4000000 in
theorem concrete_null (n u : Int) (f : Nat) (s : ByteArray) : GivesSome 8 #[V ⟨#[]⟩ n u f s] ((n = 0 ∧ u = 0 ∧ bitsF f = 0 ∧ s = E0) ∧ (FloatKind.f64.format.order f f == some .eq) = true) := by
  intro w
  go_enter Tryd.func8, Tryd.ntmps8
  go_wp2_with fail
  refine (valid_null n u f s _).mono ?_
  rintro e w1 ⟨b, rfl, hP, hb⟩
  obtain ⟨hc, hf⟩ := bcell hb
  have hz : w.heap.size < w1.heap.size := (by have := hb.size; simp at this; omega)
  have HP := Lib.hid hP
  clear hP
  cases b
  all_goals go_wp2_with (go_at_call 15; refine (isIdeal_null _).mono ?_; rintro e w2 ⟨rfl, rfl⟩)
  all_goals go_ret
  · exact ⟨false, rfl, (fun h => by cases h), bl_alloc hb⟩
  · exact ⟨_, rfl, fun h => ⟨HP.out (by first | trivial | rfl), h⟩, bl_alloc hb⟩
set_option maxRecDepth 100000 in
set_option maxHeartbeats 4000000 in
theorem concrete_un {K : ByteArray} (hK : Unk K) (n u : Int) (f : Nat) (s : ByteArray) : GivesSome 8 #[V K n u f s] False := by
  intro w
  go_enter Tryd.func8, Tryd.ntmps8
  go_wp2_with fail
  refine (valid_K_un hK n u f s _).mono ?_
  rintro e w1 ⟨rfl, hb⟩
  obtain ⟨hc, hf⟩ := bcell hb
  have hz : w.heap.size < w1.heap.size := (by have := hb.size; simp at this; omega)
  go_wp2_with fail
  go_ret
  exact ⟨false, rfl, (fun h => by cases h), bl_alloc hb⟩
end Go.Proofs.YtliopnbkpdfngaaDoor
