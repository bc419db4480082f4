/-
  laws.valid by kinds. No condition but the kind.
-/
import Derived.Test.YtliopnbkpdfngaaDoorBits
set_option linter.unusedVariables false
set_option linter.unusedSimpArgs false
namespace Go.Proofs.YtliopnbkpdfngaaDoor
open Go.RowKit
set_option maxRecDepth 100000 in
set_option maxHeartbeats 2000000 in
theorem valid_int8_a (n u : Int) (f : Nat) (s : ByteArray) (hu : (u == 0) = false) : Gives 14 #[V ⟨#[105, 110, 116, 56]⟩ n u f s] (.bool false) := by
  intro w
  go_enter Tryd.func14, Tryd.ntmps14
  go_wp2_with (first | (go_at_call 10; refine (width_int8 _).mono ?_; rintro e w1 ⟨rfl, rfl⟩) | (go_at_call 21; refine (isFloat_int8 _).mono ?_; rintro e w1 ⟨rfl, rfl⟩) | (go_at_call 20; refine (bits_any _ _).mono ?_; rintro e w1 ⟨rfl, rfl⟩))
  go_quiet ((go_at_call 20; exact (bits_any _).quiet))
  go_wp2
  all_goals (go_ret; exact ⟨rfl, bl_drewN ((Below.refl _ _).alloc (Nat.le_refl _) _) _⟩)
set_option maxRecDepth 100000 in
set_option maxHeartbeats 2000000 in
theorem valid_int8_b (n : Int) (f : Nat) (s : ByteArray) (hb : (bitsF f == 0) = false) : Gives 14 #[V ⟨#[105, 110, 116, 56]⟩ n 0 f s] (.bool false) := by
  intro w
  go_enter Tryd.func14, Tryd.ntmps14
  go_wp2_with (first | (go_at_call 10; refine (width_int8 _).mono ?_; rintro e w1 ⟨rfl, rfl⟩) | (go_at_call 21; refine (isFloat_int8 _).mono ?_; rintro e w1 ⟨rfl, rfl⟩) | (go_at_call 20; refine (bits_any _ _).mono ?_; rintro e w1 ⟨rfl, rfl⟩))
  go_quiet ((go_at_call 20; exact (bits_any _).quiet))
  go_wp2
  all_goals (go_ret; exact ⟨rfl, bl_drewN ((Below.refl _ _).alloc (Nat.le_refl _) _) _⟩)
set_option maxRecDepth 100000 in
set_option maxHeartbeats 2000000 in
theorem valid_int8_c (n : Int) (f : Nat) (s : ByteArray) (hb : (bitsF f == 0) = true) (hs : s.toList.isEmpty = false) : Gives 14 #[V ⟨#[105, 110, 116, 56]⟩ n 0 f s] (.bool false) := by
  intro w
  go_enter Tryd.func14, Tryd.ntmps14
  go_wp2_with (first | (go_at_call 10; refine (width_int8 _).mono ?_; rintro e w1 ⟨rfl, rfl⟩) | (go_at_call 21; refine (isFloat_int8 _).mono ?_; rintro e w1 ⟨rfl, rfl⟩) | (go_at_call 20; refine (bits_any _ _).mono ?_; rintro e w1 ⟨rfl, rfl⟩))
  go_quiet ((go_at_call 20; exact (bits_any _).quiet))
  go_wp2
  all_goals (go_ret; exact ⟨rfl, bl_drewN ((Below.refl _ _).alloc (Nat.le_refl _) _) _⟩)
set_option maxRecDepth 100000 in
set_option maxHeartbeats 2000000 in
theorem valid_int8_d (n : Int) (f : Nat) (hb : (bitsF f == 0) = true) : Gives 14 #[V ⟨#[105, 110, 116, 56]⟩ n 0 f E0] (.bool (n / 128 == n / 9223372036854775808)) := by
  intro w
  go_enter Tryd.func14, Tryd.ntmps14
  go_wp2_with (first | (go_at_call 10; refine (width_int8 _).mono ?_; rintro e w1 ⟨rfl, rfl⟩) | (go_at_call 21; refine (isFloat_int8 _).mono ?_; rintro e w1 ⟨rfl, rfl⟩) | (go_at_call 20; refine (bits_any _ _).mono ?_; rintro e w1 ⟨rfl, rfl⟩))
  go_quiet ((go_at_call 20; exact (bits_any _).quiet))
  go_wp2
  all_goals (go_ret; exact ⟨rfl, bl_drewN ((Below.refl _ _).alloc (Nat.le_refl _) _) _⟩)
theorem valid_int8 (n u : Int) (f : Nat) (s : ByteArray) : GivesSome 14 #[V ⟨#[105, 110, 116, 56]⟩ n u f s] (u = 0 ∧ bitsF f = 0 ∧ s = E0 ∧ n / 128 = n / 9223372036854775808) := by
  cases hu : (u == 0)
  · exact (valid_int8_a n u f s hu).some (fun h => by cases h)
  · obtain rfl : u = 0 := by simpa using hu
    cases hb : (bitsF f == 0)
    · exact (valid_int8_b n f s hb).some (fun h => by cases h)
    · cases hs : s.toList.isEmpty
      · exact (valid_int8_c n f s hb hs).some (fun h => by cases h)
      · obtain rfl := empty_of hs
        exact (valid_int8_d n f hb).some (fun h => ⟨rfl, by simpa using hb, rfl, by simpa using h⟩)
set_option maxRecDepth 100000 in
set_option maxHeartbeats 2000000 in
theorem valid_int16_a (n u : Int) (f : Nat) (s : ByteArray) (hu : (u == 0) = false) : Gives 14 #[V ⟨#[105, 110, 116, 49, 54]⟩ n u f s] (.bool false) := by
  intro w
  go_enter Tryd.func14, Tryd.ntmps14
  go_wp2_with (first | (go_at_call 10; refine (width_int16 _).mono ?_; rintro e w1 ⟨rfl, rfl⟩) | (go_at_call 21; refine (isFloat_int16 _).mono ?_; rintro e w1 ⟨rfl, rfl⟩) | (go_at_call 20; refine (bits_any _ _).mono ?_; rintro e w1 ⟨rfl, rfl⟩))
  go_quiet ((go_at_call 20; exact (bits_any _).quiet))
  go_wp2
  all_goals (go_ret; exact ⟨rfl, bl_drewN ((Below.refl _ _).alloc (Nat.le_refl _) _) _⟩)
set_option maxRecDepth 100000 in
set_option maxHeartbeats 2000000 in
theorem valid_int16_b (n : Int) (f : Nat) (s : ByteArray) (hb : (bitsF f == 0) = false) : Gives 14 #[V ⟨#[105, 110, 116, 49, 54]⟩ n 0 f s] (.bool false) := by
  intro w
  go_enter Tryd.func14, Tryd.ntmps14
  go_wp2_with (first | (go_at_call 10; refine (width_int16 _).mono ?_; rintro e w1 ⟨rfl, rfl⟩) | (go_at_call 21; refine (isFloat_int16 _).mono ?_; rintro e w1 ⟨rfl, rfl⟩) | (go_at_call 20; refine (bits_any _ _).mono ?_; rintro e w1 ⟨rfl, rfl⟩))
  go_quiet ((go_at_call 20; exact (bits_any _).quiet))
  go_wp2
  all_goals (go_ret; exact ⟨rfl, bl_drewN ((Below.refl _ _).alloc (Nat.le_refl _) _) _⟩)
set_option maxRecDepth 100000 in
set_option maxHeartbeats 2000000 in
theorem valid_int16_c (n : Int) (f : Nat) (s : ByteArray) (hb : (bitsF f == 0) = true) (hs : s.toList.isEmpty = false) : Gives 14 #[V ⟨#[105, 110, 116, 49, 54]⟩ n 0 f s] (.bool false) := by
  intro w
  go_enter Tryd.func14, Tryd.ntmps14
  go_wp2_with (first | (go_at_call 10; refine (width_int16 _).mono ?_; rintro e w1 ⟨rfl, rfl⟩) | (go_at_call 21; refine (isFloat_int16 _).mono ?_; rintro e w1 ⟨rfl, rfl⟩) | (go_at_call 20; refine (bits_any _ _).mono ?_; rintro e w1 ⟨rfl, rfl⟩))
  go_quiet ((go_at_call 20; exact (bits_any _).quiet))
  go_wp2
  all_goals (go_ret; exact ⟨rfl, bl_drewN ((Below.refl _ _).alloc (Nat.le_refl _) _) _⟩)
set_option maxRecDepth 100000 in
set_option maxHeartbeats 2000000 in
theorem valid_int16_d (n : Int) (f : Nat) (hb : (bitsF f == 0) = true) : Gives 14 #[V ⟨#[105, 110, 116, 49, 54]⟩ n 0 f E0] (.bool (n / 32768 == n / 9223372036854775808)) := by
  intro w
  go_enter Tryd.func14, Tryd.ntmps14
  go_wp2_with (first | (go_at_call 10; refine (width_int16 _).mono ?_; rintro e w1 ⟨rfl, rfl⟩) | (go_at_call 21; refine (isFloat_int16 _).mono ?_; rintro e w1 ⟨rfl, rfl⟩) | (go_at_call 20; refine (bits_any _ _).mono ?_; rintro e w1 ⟨rfl, rfl⟩))
  go_quiet ((go_at_call 20; exact (bits_any _).quiet))
  go_wp2
  all_goals (go_ret; exact ⟨rfl, bl_drewN ((Below.refl _ _).alloc (Nat.le_refl _) _) _⟩)
theorem valid_int16 (n u : Int) (f : Nat) (s : ByteArray) : GivesSome 14 #[V ⟨#[105, 110, 116, 49, 54]⟩ n u f s] (u = 0 ∧ bitsF f = 0 ∧ s = E0 ∧ n / 32768 = n / 9223372036854775808) := by
  cases hu : (u == 0)
  · exact (valid_int16_a n u f s hu).some (fun h => by cases h)
  · obtain rfl : u = 0 := by simpa using hu
    cases hb : (bitsF f == 0)
    · exact (valid_int16_b n f s hb).some (fun h => by cases h)
    · cases hs : s.toList.isEmpty
      · exact (valid_int16_c n f s hb hs).some (fun h => by cases h)
      · obtain rfl := empty_of hs
        exact (valid_int16_d n f hb).some (fun h => ⟨rfl, by simpa using hb, rfl, by simpa using h⟩)
set_option maxRecDepth 100000 in
set_option maxHeartbeats 2000000 in
theorem valid_int32_a (n u : Int) (f : Nat) (s : ByteArray) (hu : (u == 0) = false) : Gives 14 #[V ⟨#[105, 110, 116, 51, 50]⟩ n u f s] (.bool false) := by
  intro w
  go_enter Tryd.func14, Tryd.ntmps14
  go_wp2_with (first | (go_at_call 10; refine (width_int32 _).mono ?_; rintro e w1 ⟨rfl, rfl⟩) | (go_at_call 21; refine (isFloat_int32 _).mono ?_; rintro e w1 ⟨rfl, rfl⟩) | (go_at_call 20; refine (bits_any _ _).mono ?_; rintro e w1 ⟨rfl, rfl⟩))
  go_quiet ((go_at_call 20; exact (bits_any _).quiet))
  go_wp2
  all_goals (go_ret; exact ⟨rfl, bl_drewN ((Below.refl _ _).alloc (Nat.le_refl _) _) _⟩)
set_option maxRecDepth 100000 in
set_option maxHeartbeats 2000000 in
theorem valid_int32_b (n : Int) (f : Nat) (s : ByteArray) (hb : (bitsF f == 0) = false) : Gives 14 #[V ⟨#[105, 110, 116, 51, 50]⟩ n 0 f s] (.bool false) := by
  intro w
  go_enter Tryd.func14, Tryd.ntmps14
  go_wp2_with (first | (go_at_call 10; refine (width_int32 _).mono ?_; rintro e w1 ⟨rfl, rfl⟩) | (go_at_call 21; refine (isFloat_int32 _).mono ?_; rintro e w1 ⟨rfl, rfl⟩) | (go_at_call 20; refine (bits_any _ _).mono ?_; rintro e w1 ⟨rfl, rfl⟩))
  go_quiet ((go_at_call 20; exact (bits_any _).quiet))
  go_wp2
  all_goals (go_ret; exact ⟨rfl, bl_drewN ((Below.refl _ _).alloc (Nat.le_refl _) _) _⟩)
set_option maxRecDepth 100000 in
set_option maxHeartbeats 2000000 in
theorem valid_int32_c (n : Int) (f : Nat) (s : ByteArray) (hb : (bitsF f == 0) = true) (hs : s.toList.isEmpty = false) : Gives 14 #[V ⟨#[105, 110, 116, 51, 50]⟩ n 0 f s] (.bool false) := by
  intro w
  go_enter Tryd.func14, Tryd.ntmps14
  go_wp2_with (first | (go_at_call 10; refine (width_int32 _).mono ?_; rintro e w1 ⟨rfl, rfl⟩) | (go_at_call 21; refine (isFloat_int32 _).mono ?_; rintro e w1 ⟨rfl, rfl⟩) | (go_at_call 20; refine (bits_any _ _).mono ?_; rintro e w1 ⟨rfl, rfl⟩))
  go_quiet ((go_at_call 20; exact (bits_any _).quiet))
  go_wp2
  all_goals (go_ret; exact ⟨rfl, bl_drewN ((Below.refl _ _).alloc (Nat.le_refl _) _) _⟩)
set_option maxRecDepth 100000 in
set_option maxHeartbeats 2000000 in
theorem valid_int32_d (n : Int) (f : Nat) (hb : (bitsF f == 0) = true) : Gives 14 #[V ⟨#[105, 110, 116, 51, 50]⟩ n 0 f E0] (.bool (n / 2147483648 == n / 9223372036854775808)) := by
  intro w
  go_enter Tryd.func14, Tryd.ntmps14
  go_wp2_with (first | (go_at_call 10; refine (width_int32 _).mono ?_; rintro e w1 ⟨rfl, rfl⟩) | (go_at_call 21; refine (isFloat_int32 _).mono ?_; rintro e w1 ⟨rfl, rfl⟩) | (go_at_call 20; refine (bits_any _ _).mono ?_; rintro e w1 ⟨rfl, rfl⟩))
  go_quiet ((go_at_call 20; exact (bits_any _).quiet))
  go_wp2
  all_goals (go_ret; exact ⟨rfl, bl_drewN ((Below.refl _ _).alloc (Nat.le_refl _) _) _⟩)
theorem valid_int32 (n u : Int) (f : Nat) (s : ByteArray) : GivesSome 14 #[V ⟨#[105, 110, 116, 51, 50]⟩ n u f s] (u = 0 ∧ bitsF f = 0 ∧ s = E0 ∧ n / 2147483648 = n / 9223372036854775808) := by
  cases hu : (u == 0)
  · exact (valid_int32_a n u f s hu).some (fun h => by cases h)
  · obtain rfl : u = 0 := by simpa using hu
    cases hb : (bitsF f == 0)
    · exact (valid_int32_b n f s hb).some (fun h => by cases h)
    · cases hs : s.toList.isEmpty
      · exact (valid_int32_c n f s hb hs).some (fun h => by cases h)
      · obtain rfl := empty_of hs
        exact (valid_int32_d n f hb).some (fun h => ⟨rfl, by simpa using hb, rfl, by simpa using h⟩)
set_option maxRecDepth 100000 in
set_option maxHeartbeats 2000000 in
theorem valid_int64_a (n u : Int) (f : Nat) (s : ByteArray) (hu : (u == 0) = false) : Gives 14 #[V ⟨#[105, 110, 116, 54, 52]⟩ n u f s] (.bool false) := by
  intro w
  go_enter Tryd.func14, Tryd.ntmps14
  go_wp2_with (first | (go_at_call 10; refine (width_int64 _).mono ?_; rintro e w1 ⟨rfl, rfl⟩) | (go_at_call 21; refine (isFloat_int64 _).mono ?_; rintro e w1 ⟨rfl, rfl⟩) | (go_at_call 20; refine (bits_any _ _).mono ?_; rintro e w1 ⟨rfl, rfl⟩))
  go_quiet ((go_at_call 20; exact (bits_any _).quiet))
  go_wp2
  all_goals (go_ret; exact ⟨rfl, bl_drewN ((Below.refl _ _).alloc (Nat.le_refl _) _) _⟩)
set_option maxRecDepth 100000 in
set_option maxHeartbeats 2000000 in
theorem valid_int64_b (n : Int) (f : Nat) (s : ByteArray) (hb : (bitsF f == 0) = false) : Gives 14 #[V ⟨#[105, 110, 116, 54, 52]⟩ n 0 f s] (.bool false) := by
  intro w
  go_enter Tryd.func14, Tryd.ntmps14
  go_wp2_with (first | (go_at_call 10; refine (width_int64 _).mono ?_; rintro e w1 ⟨rfl, rfl⟩) | (go_at_call 21; refine (isFloat_int64 _).mono ?_; rintro e w1 ⟨rfl, rfl⟩) | (go_at_call 20; refine (bits_any _ _).mono ?_; rintro e w1 ⟨rfl, rfl⟩))
  go_quiet ((go_at_call 20; exact (bits_any _).quiet))
  go_wp2
  all_goals (go_ret; exact ⟨rfl, bl_drewN ((Below.refl _ _).alloc (Nat.le_refl _) _) _⟩)
set_option maxRecDepth 100000 in
set_option maxHeartbeats 2000000 in
theorem valid_int64_c (n : Int) (f : Nat) (s : ByteArray) (hb : (bitsF f == 0) = true) (hs : s.toList.isEmpty = false) : Gives 14 #[V ⟨#[105, 110, 116, 54, 52]⟩ n 0 f s] (.bool false) := by
  intro w
  go_enter Tryd.func14, Tryd.ntmps14
  go_wp2_with (first | (go_at_call 10; refine (width_int64 _).mono ?_; rintro e w1 ⟨rfl, rfl⟩) | (go_at_call 21; refine (isFloat_int64 _).mono ?_; rintro e w1 ⟨rfl, rfl⟩) | (go_at_call 20; refine (bits_any _ _).mono ?_; rintro e w1 ⟨rfl, rfl⟩))
  go_quiet ((go_at_call 20; exact (bits_any _).quiet))
  go_wp2
  all_goals (go_ret; exact ⟨rfl, bl_drewN ((Below.refl _ _).alloc (Nat.le_refl _) _) _⟩)
set_option maxRecDepth 100000 in
set_option maxHeartbeats 2000000 in
theorem valid_int64_d (n : Int) (f : Nat) (hb : (bitsF f == 0) = true) : Gives 14 #[V ⟨#[105, 110, 116, 54, 52]⟩ n 0 f E0] (.bool true) := by
  intro w
  go_enter Tryd.func14, Tryd.ntmps14
  go_wp2_with (first | (go_at_call 10; refine (width_int64 _).mono ?_; rintro e w1 ⟨rfl, rfl⟩) | (go_at_call 21; refine (isFloat_int64 _).mono ?_; rintro e w1 ⟨rfl, rfl⟩) | (go_at_call 20; refine (bits_any _ _).mono ?_; rintro e w1 ⟨rfl, rfl⟩))
  go_quiet ((go_at_call 20; exact (bits_any _).quiet))
  go_wp2
  all_goals (go_ret; exact ⟨rfl, bl_drewN ((Below.refl _ _).alloc (Nat.le_refl _) _) _⟩)
theorem valid_int64 (n u : Int) (f : Nat) (s : ByteArray) : GivesSome 14 #[V ⟨#[105, 110, 116, 54, 52]⟩ n u f s] (u = 0 ∧ bitsF f = 0 ∧ s = E0) := by
  cases hu : (u == 0)
  · exact (valid_int64_a n u f s hu).some (fun h => by cases h)
  · obtain rfl : u = 0 := by simpa using hu
    cases hb : (bitsF f == 0)
    · exact (valid_int64_b n f s hb).some (fun h => by cases h)
    · cases hs : s.toList.isEmpty
      · exact (valid_int64_c n f s hb hs).some (fun h => by cases h)
      · obtain rfl := empty_of hs
        exact (valid_int64_d n f hb).some (fun h => ⟨rfl, by simpa using hb, rfl⟩)
end Go.Proofs.YtliopnbkpdfngaaDoor
