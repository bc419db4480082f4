/-
  laws.valid by kinds. No condition but the kind.
-/
import Derived.Test.YtliopnbkpdfngaaDoorBits
set_option linter.unusedVariables false
set_option linter.unusedSimpArgs false
namespace Go.Proofs.YtliopnbkpdfngaaDoor
open Go.RowKit
set_option maxRecDepth 100000 in
set_option maxHeartbeats 2000000 in
theorem valid_bool_a (n u : Int) (f : Nat) (s : ByteArray) (hu : (u == 0) = false) : Gives 14 #[V ⟨#[98, 111, 111, 108]⟩ n u f s] (.bool false) := by
  intro w
  go_enter Tryd.func14, Tryd.ntmps14
  go_wp2_with (first | (go_at_call 10; refine (width_bool _).mono ?_; rintro e w1 ⟨rfl, rfl⟩) | (go_at_call 21; refine (isFloat_bool _).mono ?_; rintro e w1 ⟨rfl, rfl⟩) | (go_at_call 20; refine (bits_any _ _).mono ?_; rintro e w1 ⟨rfl, rfl⟩))
  all_goals (go_ret; exact ⟨rfl, (Below.refl _ _).alloc (Nat.le_refl _) _⟩)
set_option maxRecDepth 100000 in
set_option maxHeartbeats 2000000 in
theorem valid_bool_b (n : Int) (f : Nat) (s : ByteArray) (hb : (bitsF f == 0) = false) : Gives 14 #[V ⟨#[98, 111, 111, 108]⟩ n 0 f s] (.bool false) := by
  intro w
  go_enter Tryd.func14, Tryd.ntmps14
  go_wp2_with (first | (go_at_call 10; refine (width_bool _).mono ?_; rintro e w1 ⟨rfl, rfl⟩) | (go_at_call 21; refine (isFloat_bool _).mono ?_; rintro e w1 ⟨rfl, rfl⟩) | (go_at_call 20; refine (bits_any _ _).mono ?_; rintro e w1 ⟨rfl, rfl⟩))
  all_goals (go_ret; exact ⟨rfl, (Below.refl _ _).alloc (Nat.le_refl _) _⟩)
set_option maxRecDepth 100000 in
set_option maxHeartbeats 2000000 in
theorem valid_bool_c (n : Int) (f : Nat) (s : ByteArray) (hb : (bitsF f == 0) = true) (hs : s.toList.isEmpty = false) : Gives 14 #[V ⟨#[98, 111, 111, 108]⟩ n 0 f s] (.bool false) := by
  intro w
  go_enter Tryd.func14, Tryd.ntmps14
  go_wp2_with (first | (go_at_call 10; refine (width_bool _).mono ?_; rintro e w1 ⟨rfl, rfl⟩) | (go_at_call 21; refine (isFloat_bool _).mono ?_; rintro e w1 ⟨rfl, rfl⟩) | (go_at_call 20; refine (bits_any _ _).mono ?_; rintro e w1 ⟨rfl, rfl⟩))
  all_goals (go_ret; exact ⟨rfl, (Below.refl _ _).alloc (Nat.le_refl _) _⟩)
set_option maxRecDepth 100000 in
set_option maxHeartbeats 2000000 in
theorem valid_bool_d (f : Nat) (hb : (bitsF f == 0) = true) : Gives 14 #[V ⟨#[98, 111, 111, 108]⟩ 0 0 f E0] (.bool true) := by
  intro w
  go_enter Tryd.func14, Tryd.ntmps14
  go_wp2_with (first | (go_at_call 10; refine (width_bool _).mono ?_; rintro e w1 ⟨rfl, rfl⟩) | (go_at_call 21; refine (isFloat_bool _).mono ?_; rintro e w1 ⟨rfl, rfl⟩) | (go_at_call 20; refine (bits_any _ _).mono ?_; rintro e w1 ⟨rfl, rfl⟩))
  all_goals (go_ret; exact ⟨rfl, (Below.refl _ _).alloc (Nat.le_refl _) _⟩)
set_option maxRecDepth 100000 in
set_option maxHeartbeats 2000000 in
theorem valid_bool_e (n : Int) (f : Nat) (hb : (bitsF f == 0) = true) (hn : (n == 0) = false) : Gives 14 #[V ⟨#[98, 111, 111, 108]⟩ n 0 f E0] (.bool (n == 1)) := by
  intro w
  go_enter Tryd.func14, Tryd.ntmps14
  go_wp2_with (first | (go_at_call 10; refine (width_bool _).mono ?_; rintro e w1 ⟨rfl, rfl⟩) | (go_at_call 21; refine (isFloat_bool _).mono ?_; rintro e w1 ⟨rfl, rfl⟩) | (go_at_call 20; refine (bits_any _ _).mono ?_; rintro e w1 ⟨rfl, rfl⟩))
  all_goals (go_ret; exact ⟨rfl, (Below.refl _ _).alloc (Nat.le_refl _) _⟩)
theorem valid_bool (n u : Int) (f : Nat) (s : ByteArray) : GivesSome 14 #[V ⟨#[98, 111, 111, 108]⟩ n u f s] (u = 0 ∧ bitsF f = 0 ∧ s = E0 ∧ (n = 0 ∨ n = 1)) := by
  cases hu : (u == 0)
  · exact (valid_bool_a n u f s hu).some (fun h => by cases h)
  · obtain rfl : u = 0 := by simpa using hu
    cases hb : (bitsF f == 0)
    · exact (valid_bool_b n f s hb).some (fun h => by cases h)
    · cases hs : s.toList.isEmpty
      · exact (valid_bool_c n f s hb hs).some (fun h => by cases h)
      · obtain rfl := empty_of hs
        cases hn : (n == 0)
        · exact (valid_bool_e n f hb hn).some (fun h => ⟨rfl, by simpa using hb, rfl, .inr (by simpa using h)⟩)
        · obtain rfl : n = 0 := by simpa using hn
          exact (valid_bool_d f hb).some (fun _ => ⟨rfl, by simpa using hb, rfl, .inl rfl⟩)
set_option maxRecDepth 100000 in
set_option maxHeartbeats 2000000 in
theorem valid_string_a (n u : Int) (f : Nat) (s : ByteArray) (hn : (n == 0) = false) : Gives 14 #[V ⟨#[115, 116, 114, 105, 110, 103]⟩ n u f s] (.bool false) := by
  intro w
  go_enter Tryd.func14, Tryd.ntmps14
  go_wp2_with (first | (go_at_call 10; refine (width_string _).mono ?_; rintro e w1 ⟨rfl, rfl⟩) | (go_at_call 21; refine (isFloat_string _).mono ?_; rintro e w1 ⟨rfl, rfl⟩) | (go_at_call 20; refine (bits_any _ _).mono ?_; rintro e w1 ⟨rfl, rfl⟩))
  all_goals (go_ret; exact ⟨rfl, (Below.refl _ _).alloc (Nat.le_refl _) _⟩)
set_option maxRecDepth 100000 in
set_option maxHeartbeats 2000000 in
theorem valid_string_b (u : Int) (f : Nat) (s : ByteArray) (hu : (u == 0) = false) : Gives 14 #[V ⟨#[115, 116, 114, 105, 110, 103]⟩ 0 u f s] (.bool false) := by
  intro w
  go_enter Tryd.func14, Tryd.ntmps14
  go_wp2_with (first | (go_at_call 10; refine (width_string _).mono ?_; rintro e w1 ⟨rfl, rfl⟩) | (go_at_call 21; refine (isFloat_string _).mono ?_; rintro e w1 ⟨rfl, rfl⟩) | (go_at_call 20; refine (bits_any _ _).mono ?_; rintro e w1 ⟨rfl, rfl⟩))
  all_goals (go_ret; exact ⟨rfl, (Below.refl _ _).alloc (Nat.le_refl _) _⟩)
set_option maxRecDepth 100000 in
set_option maxHeartbeats 2000000 in
theorem valid_string_c (f : Nat) (s : ByteArray) (hb : (bitsF f == 0) = false) : Gives 14 #[V ⟨#[115, 116, 114, 105, 110, 103]⟩ 0 0 f s] (.bool false) := by
  intro w
  go_enter Tryd.func14, Tryd.ntmps14
  go_wp2_with (first | (go_at_call 10; refine (width_string _).mono ?_; rintro e w1 ⟨rfl, rfl⟩) | (go_at_call 21; refine (isFloat_string _).mono ?_; rintro e w1 ⟨rfl, rfl⟩) | (go_at_call 20; refine (bits_any _ _).mono ?_; rintro e w1 ⟨rfl, rfl⟩))
  all_goals (go_ret; exact ⟨rfl, (Below.refl _ _).alloc (Nat.le_refl _) _⟩)
set_option maxRecDepth 100000 in
set_option maxHeartbeats 2000000 in
theorem valid_string_d (f : Nat) (s : ByteArray) (hb : (bitsF f == 0) = true) : Gives 14 #[V ⟨#[115, 116, 114, 105, 110, 103]⟩ 0 0 f s] (.bool (decide ((s.size : Int) ≤ 65536))) := by
  intro w
  go_enter Tryd.func14, Tryd.ntmps14
  go_wp2_with (first | (go_at_call 10; refine (width_string _).mono ?_; rintro e w1 ⟨rfl, rfl⟩) | (go_at_call 21; refine (isFloat_string _).mono ?_; rintro e w1 ⟨rfl, rfl⟩) | (go_at_call 20; refine (bits_any _ _).mono ?_; rintro e w1 ⟨rfl, rfl⟩))
  all_goals (go_ret; exact ⟨rfl, (Below.refl _ _).alloc (Nat.le_refl _) _⟩)
theorem valid_string (n u : Int) (f : Nat) (s : ByteArray) : GivesSome 14 #[V ⟨#[115, 116, 114, 105, 110, 103]⟩ n u f s] (n = 0 ∧ u = 0 ∧ bitsF f = 0 ∧ s.size ≤ 65536) := by
  cases hn : (n == 0)
  · exact (valid_string_a n u f s hn).some (fun h => by cases h)
  · obtain rfl : n = 0 := by simpa using hn
    cases hu : (u == 0)
    · exact (valid_string_b u f s hu).some (fun h => by cases h)
    · obtain rfl : u = 0 := by simpa using hu
      cases hb : (bitsF f == 0)
      · exact (valid_string_c f s hb).some (fun h => by cases h)
      · exact (valid_string_d f s hb).some (fun h => ⟨rfl, rfl, by simpa using hb, by simp at h; omega⟩)
set_option maxRecDepth 100000 in
set_option maxHeartbeats 2000000 in
theorem valid_blob_a (n u : Int) (f : Nat) (s : ByteArray) (hn : (n == 0) = false) : Gives 14 #[V ⟨#[98, 108, 111, 98]⟩ n u f s] (.bool false) := by
  intro w
  go_enter Tryd.func14, Tryd.ntmps14
  go_wp2_with (first | (go_at_call 10; refine (width_blob _).mono ?_; rintro e w1 ⟨rfl, rfl⟩) | (go_at_call 21; refine (isFloat_blob _).mono ?_; rintro e w1 ⟨rfl, rfl⟩) | (go_at_call 20; refine (bits_any _ _).mono ?_; rintro e w1 ⟨rfl, rfl⟩))
  all_goals (go_ret; exact ⟨rfl, (Below.refl _ _).alloc (Nat.le_refl _) _⟩)
set_option maxRecDepth 100000 in
set_option maxHeartbeats 2000000 in
theorem valid_blob_b (u : Int) (f : Nat) (s : ByteArray) (hu : (u == 0) = false) : Gives 14 #[V ⟨#[98, 108, 111, 98]⟩ 0 u f s] (.bool false) := by
  intro w
  go_enter Tryd.func14, Tryd.ntmps14
  go_wp2_with (first | (go_at_call 10; refine (width_blob _).mono ?_; rintro e w1 ⟨rfl, rfl⟩) | (go_at_call 21; refine (isFloat_blob _).mono ?_; rintro e w1 ⟨rfl, rfl⟩) | (go_at_call 20; refine (bits_any _ _).mono ?_; rintro e w1 ⟨rfl, rfl⟩))
  all_goals (go_ret; exact ⟨rfl, (Below.refl _ _).alloc (Nat.le_refl _) _⟩)
set_option maxRecDepth 100000 in
set_option maxHeartbeats 2000000 in
theorem valid_blob_c (f : Nat) (s : ByteArray) (hb : (bitsF f == 0) = false) : Gives 14 #[V ⟨#[98, 108, 111, 98]⟩ 0 0 f s] (.bool false) := by
  intro w
  go_enter Tryd.func14, Tryd.ntmps14
  go_wp2_with (first | (go_at_call 10; refine (width_blob _).mono ?_; rintro e w1 ⟨rfl, rfl⟩) | (go_at_call 21; refine (isFloat_blob _).mono ?_; rintro e w1 ⟨rfl, rfl⟩) | (go_at_call 20; refine (bits_any _ _).mono ?_; rintro e w1 ⟨rfl, rfl⟩))
  all_goals (go_ret; exact ⟨rfl, (Below.refl _ _).alloc (Nat.le_refl _) _⟩)
set_option maxRecDepth 100000 in
set_option maxHeartbeats 2000000 in
theorem valid_blob_d (f : Nat) (s : ByteArray) (hb : (bitsF f == 0) = true) : Gives 14 #[V ⟨#[98, 108, 111, 98]⟩ 0 0 f s] (.bool (decide ((s.size : Int) ≤ 65536))) := by
  intro w
  go_enter Tryd.func14, Tryd.ntmps14
  go_wp2_with (first | (go_at_call 10; refine (width_blob _).mono ?_; rintro e w1 ⟨rfl, rfl⟩) | (go_at_call 21; refine (isFloat_blob _).mono ?_; rintro e w1 ⟨rfl, rfl⟩) | (go_at_call 20; refine (bits_any _ _).mono ?_; rintro e w1 ⟨rfl, rfl⟩))
  all_goals (go_ret; exact ⟨rfl, (Below.refl _ _).alloc (Nat.le_refl _) _⟩)
theorem valid_blob (n u : Int) (f : Nat) (s : ByteArray) : GivesSome 14 #[V ⟨#[98, 108, 111, 98]⟩ n u f s] (n = 0 ∧ u = 0 ∧ bitsF f = 0 ∧ s.size ≤ 65536) := by
  cases hn : (n == 0)
  · exact (valid_blob_a n u f s hn).some (fun h => by cases h)
  · obtain rfl : n = 0 := by simpa using hn
    cases hu : (u == 0)
    · exact (valid_blob_b u f s hu).some (fun h => by cases h)
    · obtain rfl : u = 0 := by simpa using hu
      cases hb : (bitsF f == 0)
      · exact (valid_blob_c f s hb).some (fun h => by cases h)
      · exact (valid_blob_d f s hb).some (fun h => ⟨rfl, rfl, by simpa using hb, by simp at h; omega⟩)
set_option maxRecDepth 100000 in
set_option maxHeartbeats 2000000 in
theorem valid_null_a (n u : Int) (f : Nat) (s : ByteArray) (hn : (n == 0) = false) : Gives 14 #[V ⟨#[]⟩ n u f s] (.bool false) := by
  intro w
  go_enter Tryd.func14, Tryd.ntmps14
  go_wp2_with (first | (go_at_call 10; refine (width_null _).mono ?_; rintro e w1 ⟨rfl, rfl⟩) | (go_at_call 21; refine (isFloat_null _).mono ?_; rintro e w1 ⟨rfl, rfl⟩) | (go_at_call 20; refine (bits_any _ _).mono ?_; rintro e w1 ⟨rfl, rfl⟩))
  all_goals (go_ret; exact ⟨rfl, (Below.refl _ _).alloc (Nat.le_refl _) _⟩)
set_option maxRecDepth 100000 in
set_option maxHeartbeats 2000000 in
theorem valid_null_b (u : Int) (f : Nat) (s : ByteArray) (hu : (u == 0) = false) : Gives 14 #[V ⟨#[]⟩ 0 u f s] (.bool false) := by
  intro w
  go_enter Tryd.func14, Tryd.ntmps14
  go_wp2_with (first | (go_at_call 10; refine (width_null _).mono ?_; rintro e w1 ⟨rfl, rfl⟩) | (go_at_call 21; refine (isFloat_null _).mono ?_; rintro e w1 ⟨rfl, rfl⟩) | (go_at_call 20; refine (bits_any _ _).mono ?_; rintro e w1 ⟨rfl, rfl⟩))
  all_goals (go_ret; exact ⟨rfl, (Below.refl _ _).alloc (Nat.le_refl _) _⟩)
set_option maxRecDepth 100000 in
set_option maxHeartbeats 2000000 in
theorem valid_null_c (f : Nat) (s : ByteArray) (hb : (bitsF f == 0) = false) : Gives 14 #[V ⟨#[]⟩ 0 0 f s] (.bool false) := by
  intro w
  go_enter Tryd.func14, Tryd.ntmps14
  go_wp2_with (first | (go_at_call 10; refine (width_null _).mono ?_; rintro e w1 ⟨rfl, rfl⟩) | (go_at_call 21; refine (isFloat_null _).mono ?_; rintro e w1 ⟨rfl, rfl⟩) | (go_at_call 20; refine (bits_any _ _).mono ?_; rintro e w1 ⟨rfl, rfl⟩))
  all_goals (go_ret; exact ⟨rfl, (Below.refl _ _).alloc (Nat.le_refl _) _⟩)
set_option maxRecDepth 100000 in
set_option maxHeartbeats 2000000 in
theorem valid_null_d (f : Nat) (s : ByteArray) (hb : (bitsF f == 0) = true) : Gives 14 #[V ⟨#[]⟩ 0 0 f s] (.bool s.toList.isEmpty) := by
  intro w
  go_enter Tryd.func14, Tryd.ntmps14
  go_wp2_with (first | (go_at_call 10; refine (width_null _).mono ?_; rintro e w1 ⟨rfl, rfl⟩) | (go_at_call 21; refine (isFloat_null _).mono ?_; rintro e w1 ⟨rfl, rfl⟩) | (go_at_call 20; refine (bits_any _ _).mono ?_; rintro e w1 ⟨rfl, rfl⟩))
  all_goals (go_ret; exact ⟨rfl, (Below.refl _ _).alloc (Nat.le_refl _) _⟩)
theorem valid_null (n u : Int) (f : Nat) (s : ByteArray) : GivesSome 14 #[V ⟨#[]⟩ n u f s] (n = 0 ∧ u = 0 ∧ bitsF f = 0 ∧ s = E0) := by
  cases hn : (n == 0)
  · exact (valid_null_a n u f s hn).some (fun h => by cases h)
  · obtain rfl : n = 0 := by simpa using hn
    cases hu : (u == 0)
    · exact (valid_null_b u f s hu).some (fun h => by cases h)
    · obtain rfl : u = 0 := by simpa using hu
      cases hb : (bitsF f == 0)
      · exact (valid_null_c f s hb).some (fun h => by cases h)
      · exact (valid_null_d f s hb).some (fun h => ⟨rfl, rfl, by simpa using hb, empty_of h⟩)
set_option maxRecDepth 100000 in
set_option maxHeartbeats 2000000 in
theorem valid_K_un {K : ByteArray} (hK : Unk K) (n u : Int) (f : Nat) (s : ByteArray) : Gives 14 #[V K n u f s] (.bool false) := by
  intro w
  have k0 := hK.n_bool
  have k1 := hK.n_int8
  have k2 := hK.n_int16
  have k3 := hK.n_int32
  have k4 := hK.n_int64
  have k5 := hK.n_uint8
  have k6 := hK.n_uint16
  have k7 := hK.n_uint32
  have k8 := hK.n_uint64
  have k9 := hK.n_float32
  have k10 := hK.n_float64
  have k11 := hK.n_string
  have k12 := hK.n_blob
  have k13 := hK.n_idealInt
  have k14 := hK.n_idealRune
  have k15 := hK.n_idealUint
  have k16 := hK.n_idealFloat
  have kn := hK.nn
  go_enter Tryd.func14, Tryd.ntmps14
  go_wp2_with (first | (go_at_call 10; refine (width_un hK _).mono ?_; rintro e w1 ⟨rfl, rfl⟩) | (go_at_call 21; refine (isFloat_un hK _).mono ?_; rintro e w1 ⟨rfl, rfl⟩) | (go_at_call 20; refine (bits_any _ _).mono ?_; rintro e w1 ⟨rfl, rfl⟩))
  all_goals (go_ret; exact ⟨rfl, (Below.refl _ _).alloc (Nat.le_refl _) _⟩)
end Go.Proofs.YtliopnbkpdfngaaDoor
