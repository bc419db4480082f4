/-
  laws.valid by kinds. No condition but the kind.
-/
import Derived.Test.YtliopnbkpdfngaaDoorBits
set_option linter.unusedVariables false
set_option linter.unusedSimpArgs false
namespace Go.Proofs.YtliopnbkpdfngaaDoor
open Go.RowKit
set_option maxRecDepth 100000 in
set_option maxHeartbeats 2000000 in
theorem valid_uint8_a (n u : Int) (f : Nat) (s : ByteArray) (hn : (n == 0) = false) : Gives 14 #[V ⟨#[117, 105, 110, 116, 56]⟩ n u f s] (.bool false) := by
  intro w
  go_enter Tryd.func14, Tryd.ntmps14
  go_wp2_with (first | (go_at_call 10; refine (width_uint8 _).mono ?_; rintro e w1 ⟨rfl, rfl⟩) | (go_at_call 21; refine (isFloat_uint8 _).mono ?_; rintro e w1 ⟨rfl, rfl⟩) | (go_at_call 20; refine (bits_any _ _).mono ?_; rintro e w1 ⟨rfl, rfl⟩))
  all_goals (go_ret; exact ⟨rfl, (Below.refl _ _).alloc (Nat.le_refl _) _⟩)
set_option maxRecDepth 100000 in
set_option maxHeartbeats 2000000 in
theorem valid_uint8_b (u : Int) (f : Nat) (s : ByteArray) (hb : (bitsF f == 0) = false) : Gives 14 #[V ⟨#[117, 105, 110, 116, 56]⟩ 0 u f s] (.bool false) := by
  intro w
  go_enter Tryd.func14, Tryd.ntmps14
  go_wp2_with (first | (go_at_call 10; refine (width_uint8 _).mono ?_; rintro e w1 ⟨rfl, rfl⟩) | (go_at_call 21; refine (isFloat_uint8 _).mono ?_; rintro e w1 ⟨rfl, rfl⟩) | (go_at_call 20; refine (bits_any _ _).mono ?_; rintro e w1 ⟨rfl, rfl⟩))
  all_goals (go_ret; exact ⟨rfl, (Below.refl _ _).alloc (Nat.le_refl _) _⟩)
set_option maxRecDepth 100000 in
set_option maxHeartbeats 2000000 in
theorem valid_uint8_c (u : Int) (f : Nat) (s : ByteArray) (hb : (bitsF f == 0) = true) (hs : s.toList.isEmpty = false) : Gives 14 #[V ⟨#[117, 105, 110, 116, 56]⟩ 0 u f s] (.bool false) := by
  intro w
  go_enter Tryd.func14, Tryd.ntmps14
  go_wp2_with (first | (go_at_call 10; refine (width_uint8 _).mono ?_; rintro e w1 ⟨rfl, rfl⟩) | (go_at_call 21; refine (isFloat_uint8 _).mono ?_; rintro e w1 ⟨rfl, rfl⟩) | (go_at_call 20; refine (bits_any _ _).mono ?_; rintro e w1 ⟨rfl, rfl⟩))
  all_goals (go_ret; exact ⟨rfl, (Below.refl _ _).alloc (Nat.le_refl _) _⟩)
set_option maxRecDepth 100000 in
set_option maxHeartbeats 2000000 in
theorem valid_uint8_d (u : Int) (f : Nat) (hb : (bitsF f == 0) = true) : Gives 14 #[V ⟨#[117, 105, 110, 116, 56]⟩ 0 u f E0] (.bool (u / 256 == 0)) := by
  intro w
  go_enter Tryd.func14, Tryd.ntmps14
  go_wp2_with (first | (go_at_call 10; refine (width_uint8 _).mono ?_; rintro e w1 ⟨rfl, rfl⟩) | (go_at_call 21; refine (isFloat_uint8 _).mono ?_; rintro e w1 ⟨rfl, rfl⟩) | (go_at_call 20; refine (bits_any _ _).mono ?_; rintro e w1 ⟨rfl, rfl⟩))
  all_goals (go_ret; exact ⟨rfl, (Below.refl _ _).alloc (Nat.le_refl _) _⟩)
theorem valid_uint8 (n u : Int) (f : Nat) (s : ByteArray) : GivesSome 14 #[V ⟨#[117, 105, 110, 116, 56]⟩ n u f s] (n = 0 ∧ bitsF f = 0 ∧ s = E0 ∧ u / 256 = 0) := by
  cases hn : (n == 0)
  · exact (valid_uint8_a n u f s hn).some (fun h => by cases h)
  · obtain rfl : n = 0 := by simpa using hn
    cases hb : (bitsF f == 0)
    · exact (valid_uint8_b u f s hb).some (fun h => by cases h)
    · cases hs : s.toList.isEmpty
      · exact (valid_uint8_c u f s hb hs).some (fun h => by cases h)
      · obtain rfl := empty_of hs
        exact (valid_uint8_d u f hb).some (fun h => ⟨rfl, by simpa using hb, rfl, by simpa using h⟩)
set_option maxRecDepth 100000 in
set_option maxHeartbeats 2000000 in
theorem valid_uint16_a (n u : Int) (f : Nat) (s : ByteArray) (hn : (n == 0) = false) : Gives 14 #[V ⟨#[117, 105, 110, 116, 49, 54]⟩ n u f s] (.bool false) := by
  intro w
  go_enter Tryd.func14, Tryd.ntmps14
  go_wp2_with (first | (go_at_call 10; refine (width_uint16 _).mono ?_; rintro e w1 ⟨rfl, rfl⟩) | (go_at_call 21; refine (isFloat_uint16 _).mono ?_; rintro e w1 ⟨rfl, rfl⟩) | (go_at_call 20; refine (bits_any _ _).mono ?_; rintro e w1 ⟨rfl, rfl⟩))
  all_goals (go_ret; exact ⟨rfl, (Below.refl _ _).alloc (Nat.le_refl _) _⟩)
set_option maxRecDepth 100000 in
set_option maxHeartbeats 2000000 in
theorem valid_uint16_b (u : Int) (f : Nat) (s : ByteArray) (hb : (bitsF f == 0) = false) : Gives 14 #[V ⟨#[117, 105, 110, 116, 49, 54]⟩ 0 u f s] (.bool false) := by
  intro w
  go_enter Tryd.func14, Tryd.ntmps14
  go_wp2_with (first | (go_at_call 10; refine (width_uint16 _).mono ?_; rintro e w1 ⟨rfl, rfl⟩) | (go_at_call 21; refine (isFloat_uint16 _).mono ?_; rintro e w1 ⟨rfl, rfl⟩) | (go_at_call 20; refine (bits_any _ _).mono ?_; rintro e w1 ⟨rfl, rfl⟩))
  all_goals (go_ret; exact ⟨rfl, (Below.refl _ _).alloc (Nat.le_refl _) _⟩)
set_option maxRecDepth 100000 in
set_option maxHeartbeats 2000000 in
theorem valid_uint16_c (u : Int) (f : Nat) (s : ByteArray) (hb : (bitsF f == 0) = true) (hs : s.toList.isEmpty = false) : Gives 14 #[V ⟨#[117, 105, 110, 116, 49, 54]⟩ 0 u f s] (.bool false) := by
  intro w
  go_enter Tryd.func14, Tryd.ntmps14
  go_wp2_with (first | (go_at_call 10; refine (width_uint16 _).mono ?_; rintro e w1 ⟨rfl, rfl⟩) | (go_at_call 21; refine (isFloat_uint16 _).mono ?_; rintro e w1 ⟨rfl, rfl⟩) | (go_at_call 20; refine (bits_any _ _).mono ?_; rintro e w1 ⟨rfl, rfl⟩))
  all_goals (go_ret; exact ⟨rfl, (Below.refl _ _).alloc (Nat.le_refl _) _⟩)
set_option maxRecDepth 100000 in
set_option maxHeartbeats 2000000 in
theorem valid_uint16_d (u : Int) (f : Nat) (hb : (bitsF f == 0) = true) : Gives 14 #[V ⟨#[117, 105, 110, 116, 49, 54]⟩ 0 u f E0] (.bool (u / 65536 == 0)) := by
  intro w
  go_enter Tryd.func14, Tryd.ntmps14
  go_wp2_with (first | (go_at_call 10; refine (width_uint16 _).mono ?_; rintro e w1 ⟨rfl, rfl⟩) | (go_at_call 21; refine (isFloat_uint16 _).mono ?_; rintro e w1 ⟨rfl, rfl⟩) | (go_at_call 20; refine (bits_any _ _).mono ?_; rintro e w1 ⟨rfl, rfl⟩))
  all_goals (go_ret; exact ⟨rfl, (Below.refl _ _).alloc (Nat.le_refl _) _⟩)
theorem valid_uint16 (n u : Int) (f : Nat) (s : ByteArray) : GivesSome 14 #[V ⟨#[117, 105, 110, 116, 49, 54]⟩ n u f s] (n = 0 ∧ bitsF f = 0 ∧ s = E0 ∧ u / 65536 = 0) := by
  cases hn : (n == 0)
  · exact (valid_uint16_a n u f s hn).some (fun h => by cases h)
  · obtain rfl : n = 0 := by simpa using hn
    cases hb : (bitsF f == 0)
    · exact (valid_uint16_b u f s hb).some (fun h => by cases h)
    · cases hs : s.toList.isEmpty
      · exact (valid_uint16_c u f s hb hs).some (fun h => by cases h)
      · obtain rfl := empty_of hs
        exact (valid_uint16_d u f hb).some (fun h => ⟨rfl, by simpa using hb, rfl, by simpa using h⟩)
set_option maxRecDepth 100000 in
set_option maxHeartbeats 2000000 in
theorem valid_uint32_a (n u : Int) (f : Nat) (s : ByteArray) (hn : (n == 0) = false) : Gives 14 #[V ⟨#[117, 105, 110, 116, 51, 50]⟩ n u f s] (.bool false) := by
  intro w
  go_enter Tryd.func14, Tryd.ntmps14
  go_wp2_with (first | (go_at_call 10; refine (width_uint32 _).mono ?_; rintro e w1 ⟨rfl, rfl⟩) | (go_at_call 21; refine (isFloat_uint32 _).mono ?_; rintro e w1 ⟨rfl, rfl⟩) | (go_at_call 20; refine (bits_any _ _).mono ?_; rintro e w1 ⟨rfl, rfl⟩))
  all_goals (go_ret; exact ⟨rfl, (Below.refl _ _).alloc (Nat.le_refl _) _⟩)
set_option maxRecDepth 100000 in
set_option maxHeartbeats 2000000 in
theorem valid_uint32_b (u : Int) (f : Nat) (s : ByteArray) (hb : (bitsF f == 0) = false) : Gives 14 #[V ⟨#[117, 105, 110, 116, 51, 50]⟩ 0 u f s] (.bool false) := by
  intro w
  go_enter Tryd.func14, Tryd.ntmps14
  go_wp2_with (first | (go_at_call 10; refine (width_uint32 _).mono ?_; rintro e w1 ⟨rfl, rfl⟩) | (go_at_call 21; refine (isFloat_uint32 _).mono ?_; rintro e w1 ⟨rfl, rfl⟩) | (go_at_call 20; refine (bits_any _ _).mono ?_; rintro e w1 ⟨rfl, rfl⟩))
  all_goals (go_ret; exact ⟨rfl, (Below.refl _ _).alloc (Nat.le_refl _) _⟩)
set_option maxRecDepth 100000 in
set_option maxHeartbeats 2000000 in
theorem valid_uint32_c (u : Int) (f : Nat) (s : ByteArray) (hb : (bitsF f == 0) = true) (hs : s.toList.isEmpty = false) : Gives 14 #[V ⟨#[117, 105, 110, 116, 51, 50]⟩ 0 u f s] (.bool false) := by
  intro w
  go_enter Tryd.func14, Tryd.ntmps14
  go_wp2_with (first | (go_at_call 10; refine (width_uint32 _).mono ?_; rintro e w1 ⟨rfl, rfl⟩) | (go_at_call 21; refine (isFloat_uint32 _).mono ?_; rintro e w1 ⟨rfl, rfl⟩) | (go_at_call 20; refine (bits_any _ _).mono ?_; rintro e w1 ⟨rfl, rfl⟩))
  all_goals (go_ret; exact ⟨rfl, (Below.refl _ _).alloc (Nat.le_refl _) _⟩)
set_option maxRecDepth 100000 in
set_option maxHeartbeats 2000000 in
theorem valid_uint32_d (u : Int) (f : Nat) (hb : (bitsF f == 0) = true) : Gives 14 #[V ⟨#[117, 105, 110, 116, 51, 50]⟩ 0 u f E0] (.bool (u / 4294967296 == 0)) := by
  intro w
  go_enter Tryd.func14, Tryd.ntmps14
  go_wp2_with (first | (go_at_call 10; refine (width_uint32 _).mono ?_; rintro e w1 ⟨rfl, rfl⟩) | (go_at_call 21; refine (isFloat_uint32 _).mono ?_; rintro e w1 ⟨rfl, rfl⟩) | (go_at_call 20; refine (bits_any _ _).mono ?_; rintro e w1 ⟨rfl, rfl⟩))
  all_goals (go_ret; exact ⟨rfl, (Below.refl _ _).alloc (Nat.le_refl _) _⟩)
theorem valid_uint32 (n u : Int) (f : Nat) (s : ByteArray) : GivesSome 14 #[V ⟨#[117, 105, 110, 116, 51, 50]⟩ n u f s] (n = 0 ∧ bitsF f = 0 ∧ s = E0 ∧ u / 4294967296 = 0) := by
  cases hn : (n == 0)
  · exact (valid_uint32_a n u f s hn).some (fun h => by cases h)
  · obtain rfl : n = 0 := by simpa using hn
    cases hb : (bitsF f == 0)
    · exact (valid_uint32_b u f s hb).some (fun h => by cases h)
    · cases hs : s.toList.isEmpty
      · exact (valid_uint32_c u f s hb hs).some (fun h => by cases h)
      · obtain rfl := empty_of hs
        exact (valid_uint32_d u f hb).some (fun h => ⟨rfl, by simpa using hb, rfl, by simpa using h⟩)
set_option maxRecDepth 100000 in
set_option maxHeartbeats 2000000 in
theorem valid_uint64_a (n u : Int) (f : Nat) (s : ByteArray) (hn : (n == 0) = false) : Gives 14 #[V ⟨#[117, 105, 110, 116, 54, 52]⟩ n u f s] (.bool false) := by
  intro w
  go_enter Tryd.func14, Tryd.ntmps14
  go_wp2_with (first | (go_at_call 10; refine (width_uint64 _).mono ?_; rintro e w1 ⟨rfl, rfl⟩) | (go_at_call 21; refine (isFloat_uint64 _).mono ?_; rintro e w1 ⟨rfl, rfl⟩) | (go_at_call 20; refine (bits_any _ _).mono ?_; rintro e w1 ⟨rfl, rfl⟩))
  all_goals (go_ret; exact ⟨rfl, (Below.refl _ _).alloc (Nat.le_refl _) _⟩)
set_option maxRecDepth 100000 in
set_option maxHeartbeats 2000000 in
theorem valid_uint64_b (u : Int) (f : Nat) (s : ByteArray) (hb : (bitsF f == 0) = false) : Gives 14 #[V ⟨#[117, 105, 110, 116, 54, 52]⟩ 0 u f s] (.bool false) := by
  intro w
  go_enter Tryd.func14, Tryd.ntmps14
  go_wp2_with (first | (go_at_call 10; refine (width_uint64 _).mono ?_; rintro e w1 ⟨rfl, rfl⟩) | (go_at_call 21; refine (isFloat_uint64 _).mono ?_; rintro e w1 ⟨rfl, rfl⟩) | (go_at_call 20; refine (bits_any _ _).mono ?_; rintro e w1 ⟨rfl, rfl⟩))
  all_goals (go_ret; exact ⟨rfl, (Below.refl _ _).alloc (Nat.le_refl _) _⟩)
set_option maxRecDepth 100000 in
set_option maxHeartbeats 2000000 in
theorem valid_uint64_c (u : Int) (f : Nat) (s : ByteArray) (hb : (bitsF f == 0) = true) (hs : s.toList.isEmpty = false) : Gives 14 #[V ⟨#[117, 105, 110, 116, 54, 52]⟩ 0 u f s] (.bool false) := by
  intro w
  go_enter Tryd.func14, Tryd.ntmps14
  go_wp2_with (first | (go_at_call 10; refine (width_uint64 _).mono ?_; rintro e w1 ⟨rfl, rfl⟩) | (go_at_call 21; refine (isFloat_uint64 _).mono ?_; rintro e w1 ⟨rfl, rfl⟩) | (go_at_call 20; refine (bits_any _ _).mono ?_; rintro e w1 ⟨rfl, rfl⟩))
  all_goals (go_ret; exact ⟨rfl, (Below.refl _ _).alloc (Nat.le_refl _) _⟩)
set_option maxRecDepth 100000 in
set_option maxHeartbeats 2000000 in
theorem valid_uint64_d (u : Int) (f : Nat) (hb : (bitsF f == 0) = true) : Gives 14 #[V ⟨#[117, 105, 110, 116, 54, 52]⟩ 0 u f E0] (.bool true) := by
  intro w
  go_enter Tryd.func14, Tryd.ntmps14
  go_wp2_with (first | (go_at_call 10; refine (width_uint64 _).mono ?_; rintro e w1 ⟨rfl, rfl⟩) | (go_at_call 21; refine (isFloat_uint64 _).mono ?_; rintro e w1 ⟨rfl, rfl⟩) | (go_at_call 20; refine (bits_any _ _).mono ?_; rintro e w1 ⟨rfl, rfl⟩))
  all_goals (go_ret; exact ⟨rfl, (Below.refl _ _).alloc (Nat.le_refl _) _⟩)
theorem valid_uint64 (n u : Int) (f : Nat) (s : ByteArray) : GivesSome 14 #[V ⟨#[117, 105, 110, 116, 54, 52]⟩ n u f s] (n = 0 ∧ bitsF f = 0 ∧ s = E0) := by
  cases hn : (n == 0)
  · exact (valid_uint64_a n u f s hn).some (fun h => by cases h)
  · obtain rfl : n = 0 := by simpa using hn
    cases hb : (bitsF f == 0)
    · exact (valid_uint64_b u f s hb).some (fun h => by cases h)
    · cases hs : s.toList.isEmpty
      · exact (valid_uint64_c u f s hb hs).some (fun h => by cases h)
      · obtain rfl := empty_of hs
        exact (valid_uint64_d u f hb).some (fun h => ⟨rfl, by simpa using hb, rfl⟩)
set_option maxRecDepth 100000 in
set_option maxHeartbeats 2000000 in
theorem valid_idealUint_a (n u : Int) (f : Nat) (s : ByteArray) (hn : (n == 0) = false) : Gives 14 #[V ⟨#[105, 100, 101, 97, 108, 85, 105, 110, 116]⟩ n u f s] (.bool false) := by
  intro w
  go_enter Tryd.func14, Tryd.ntmps14
  go_wp2_with (first | (go_at_call 10; refine (width_idealUint _).mono ?_; rintro e w1 ⟨rfl, rfl⟩) | (go_at_call 21; refine (isFloat_idealUint _).mono ?_; rintro e w1 ⟨rfl, rfl⟩) | (go_at_call 20; refine (bits_any _ _).mono ?_; rintro e w1 ⟨rfl, rfl⟩))
  all_goals (go_ret; exact ⟨rfl, (Below.refl _ _).alloc (Nat.le_refl _) _⟩)
set_option maxRecDepth 100000 in
set_option maxHeartbeats 2000000 in
theorem valid_idealUint_b (u : Int) (f : Nat) (s : ByteArray) (hb : (bitsF f == 0) = false) : Gives 14 #[V ⟨#[105, 100, 101, 97, 108, 85, 105, 110, 116]⟩ 0 u f s] (.bool false) := by
  intro w
  go_enter Tryd.func14, Tryd.ntmps14
  go_wp2_with (first | (go_at_call 10; refine (width_idealUint _).mono ?_; rintro e w1 ⟨rfl, rfl⟩) | (go_at_call 21; refine (isFloat_idealUint _).mono ?_; rintro e w1 ⟨rfl, rfl⟩) | (go_at_call 20; refine (bits_any _ _).mono ?_; rintro e w1 ⟨rfl, rfl⟩))
  all_goals (go_ret; exact ⟨rfl, (Below.refl _ _).alloc (Nat.le_refl _) _⟩)
set_option maxRecDepth 100000 in
set_option maxHeartbeats 2000000 in
theorem valid_idealUint_c (u : Int) (f : Nat) (s : ByteArray) (hb : (bitsF f == 0) = true) (hs : s.toList.isEmpty = false) : Gives 14 #[V ⟨#[105, 100, 101, 97, 108, 85, 105, 110, 116]⟩ 0 u f s] (.bool false) := by
  intro w
  go_enter Tryd.func14, Tryd.ntmps14
  go_wp2_with (first | (go_at_call 10; refine (width_idealUint _).mono ?_; rintro e w1 ⟨rfl, rfl⟩) | (go_at_call 21; refine (isFloat_idealUint _).mono ?_; rintro e w1 ⟨rfl, rfl⟩) | (go_at_call 20; refine (bits_any _ _).mono ?_; rintro e w1 ⟨rfl, rfl⟩))
  all_goals (go_ret; exact ⟨rfl, (Below.refl _ _).alloc (Nat.le_refl _) _⟩)
set_option maxRecDepth 100000 in
set_option maxHeartbeats 2000000 in
theorem valid_idealUint_d (u : Int) (f : Nat) (hb : (bitsF f == 0) = true) : Gives 14 #[V ⟨#[105, 100, 101, 97, 108, 85, 105, 110, 116]⟩ 0 u f E0] (.bool true) := by
  intro w
  go_enter Tryd.func14, Tryd.ntmps14
  go_wp2_with (first | (go_at_call 10; refine (width_idealUint _).mono ?_; rintro e w1 ⟨rfl, rfl⟩) | (go_at_call 21; refine (isFloat_idealUint _).mono ?_; rintro e w1 ⟨rfl, rfl⟩) | (go_at_call 20; refine (bits_any _ _).mono ?_; rintro e w1 ⟨rfl, rfl⟩))
  all_goals (go_ret; exact ⟨rfl, (Below.refl _ _).alloc (Nat.le_refl _) _⟩)
theorem valid_idealUint (n u : Int) (f : Nat) (s : ByteArray) : GivesSome 14 #[V ⟨#[105, 100, 101, 97, 108, 85, 105, 110, 116]⟩ n u f s] (n = 0 ∧ bitsF f = 0 ∧ s = E0) := by
  cases hn : (n == 0)
  · exact (valid_idealUint_a n u f s hn).some (fun h => by cases h)
  · obtain rfl : n = 0 := by simpa using hn
    cases hb : (bitsF f == 0)
    · exact (valid_idealUint_b u f s hb).some (fun h => by cases h)
    · cases hs : s.toList.isEmpty
      · exact (valid_idealUint_c u f s hb hs).some (fun h => by cases h)
      · obtain rfl := empty_of hs
        exact (valid_idealUint_d u f hb).some (fun h => ⟨rfl, by simpa using hb, rfl⟩)
end Go.Proofs.YtliopnbkpdfngaaDoor
