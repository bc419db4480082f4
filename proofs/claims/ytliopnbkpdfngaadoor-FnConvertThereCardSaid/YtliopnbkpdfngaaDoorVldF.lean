/-
  laws.valid by kinds. No condition but the kind.
-/
import Derived.Test.YtliopnbkpdfngaaDoorBits
set_option linter.unusedVariables false
set_option linter.unusedSimpArgs false
namespace Go.Proofs.YtliopnbkpdfngaaDoor
open Go.RowKit
set_option maxRecDepth 100000 in
set_option maxHeartbeats 2000000 in
theorem valid_float64_a (n u : Int) (f : Nat) (s : ByteArray) (hn : (n == 0) = false) : Gives 14 #[V ⟨#[102, 108, 111, 97, 116, 54, 52]⟩ n u f s] (.bool false) := by
  intro w
  go_enter Tryd.func14, Tryd.ntmps14
  go_wp2_with (first | (go_at_call 10; refine (width_float64 _).mono ?_; rintro e w1 ⟨rfl, rfl⟩) | (go_at_call 21; refine (isFloat_float64 _).mono ?_; rintro e w1 ⟨rfl, rfl⟩) | (go_at_call 20; refine (bits_any _ _).mono ?_; rintro e w1 ⟨rfl, rfl⟩))
  go_quiet ((go_at_call 20; exact (bits_any _).quiet))
  go_wp2
  all_goals (go_ret; exact ⟨rfl, bl_drewN ((Below.refl _ _).alloc (Nat.le_refl _) _) _⟩)
set_option maxRecDepth 100000 in
set_option maxHeartbeats 2000000 in
theorem valid_float64_b (u : Int) (f : Nat) (s : ByteArray) (hu : (u == 0) = false) : Gives 14 #[V ⟨#[102, 108, 111, 97, 116, 54, 52]⟩ 0 u f s] (.bool false) := by
  intro w
  go_enter Tryd.func14, Tryd.ntmps14
  go_wp2_with (first | (go_at_call 10; refine (width_float64 _).mono ?_; rintro e w1 ⟨rfl, rfl⟩) | (go_at_call 21; refine (isFloat_float64 _).mono ?_; rintro e w1 ⟨rfl, rfl⟩) | (go_at_call 20; refine (bits_any _ _).mono ?_; rintro e w1 ⟨rfl, rfl⟩))
  go_quiet ((go_at_call 20; exact (bits_any _).quiet))
  go_wp2
  all_goals (go_ret; exact ⟨rfl, bl_drewN ((Below.refl _ _).alloc (Nat.le_refl _) _) _⟩)
set_option maxRecDepth 100000 in
set_option maxHeartbeats 2000000 in
theorem valid_float64_c (f : Nat) (s : ByteArray) (hs : s.toList.isEmpty = false) : Gives 14 #[V ⟨#[102, 108, 111, 97, 116, 54, 52]⟩ 0 0 f s] (.bool false) := by
  intro w
  go_enter Tryd.func14, Tryd.ntmps14
  go_wp2_with (first | (go_at_call 10; refine (width_float64 _).mono ?_; rintro e w1 ⟨rfl, rfl⟩) | (go_at_call 21; refine (isFloat_float64 _).mono ?_; rintro e w1 ⟨rfl, rfl⟩) | (go_at_call 20; refine (bits_any _ _).mono ?_; rintro e w1 ⟨rfl, rfl⟩))
  go_quiet ((go_at_call 20; exact (bits_any _).quiet))
  go_wp2
  all_goals (go_ret; exact ⟨rfl, bl_drewN ((Below.refl _ _).alloc (Nat.le_refl _) _) _⟩)
set_option maxRecDepth 100000 in
set_option maxHeartbeats 2000000 in
theorem valid_float64_d (f : Nat) : Gives 14 #[V ⟨#[102, 108, 111, 97, 116, 54, 52]⟩ 0 0 f E0] (.bool true) := by
  intro w
  go_enter Tryd.func14, Tryd.ntmps14
  go_wp2_with (first | (go_at_call 10; refine (width_float64 _).mono ?_; rintro e w1 ⟨rfl, rfl⟩) | (go_at_call 21; refine (isFloat_float64 _).mono ?_; rintro e w1 ⟨rfl, rfl⟩) | (go_at_call 20; refine (bits_any _ _).mono ?_; rintro e w1 ⟨rfl, rfl⟩))
  go_quiet ((go_at_call 20; exact (bits_any _).quiet))
  go_wp2
  all_goals (go_ret; exact ⟨rfl, bl_drewN ((Below.refl _ _).alloc (Nat.le_refl _) _) _⟩)
theorem valid_float64 (n u : Int) (f : Nat) (s : ByteArray) : GivesSome 14 #[V ⟨#[102, 108, 111, 97, 116, 54, 52]⟩ n u f s] (n = 0 ∧ u = 0 ∧ s = E0) := by
  cases hn : (n == 0)
  · exact (valid_float64_a n u f s hn).some (fun h => by cases h)
  · obtain rfl : n = 0 := by simpa using hn
    cases hu : (u == 0)
    · exact (valid_float64_b u f s hu).some (fun h => by cases h)
    · obtain rfl : u = 0 := by simpa using hu
      cases hs : s.toList.isEmpty
      · exact (valid_float64_c f s hs).some (fun h => by cases h)
      · obtain rfl := empty_of hs
        exact (valid_float64_d f).some (fun _ => ⟨rfl, rfl, rfl⟩)
set_option maxRecDepth 100000 in
set_option maxHeartbeats 2000000 in
theorem valid_idealFloat_a (n u : Int) (f : Nat) (s : ByteArray) (hn : (n == 0) = false) : Gives 14 #[V ⟨#[105, 100, 101, 97, 108, 70, 108, 111, 97, 116]⟩ n u f s] (.bool false) := by
  intro w
  go_enter Tryd.func14, Tryd.ntmps14
  go_wp2_with (first | (go_at_call 10; refine (width_idealFloat _).mono ?_; rintro e w1 ⟨rfl, rfl⟩) | (go_at_call 21; refine (isFloat_idealFloat _).mono ?_; rintro e w1 ⟨rfl, rfl⟩) | (go_at_call 20; refine (bits_any _ _).mono ?_; rintro e w1 ⟨rfl, rfl⟩))
  go_quiet ((go_at_call 20; exact (bits_any _).quiet))
  go_wp2
  all_goals (go_ret; exact ⟨rfl, bl_drewN ((Below.refl _ _).alloc (Nat.le_refl _) _) _⟩)
set_option maxRecDepth 100000 in
set_option maxHeartbeats 2000000 in
theorem valid_idealFloat_b (u : Int) (f : Nat) (s : ByteArray) (hu : (u == 0) = false) : Gives 14 #[V ⟨#[105, 100, 101, 97, 108, 70, 108, 111, 97, 116]⟩ 0 u f s] (.bool false) := by
  intro w
  go_enter Tryd.func14, Tryd.ntmps14
  go_wp2_with (first | (go_at_call 10; refine (width_idealFloat _).mono ?_; rintro e w1 ⟨rfl, rfl⟩) | (go_at_call 21; refine (isFloat_idealFloat _).mono ?_; rintro e w1 ⟨rfl, rfl⟩) | (go_at_call 20; refine (bits_any _ _).mono ?_; rintro e w1 ⟨rfl, rfl⟩))
  go_quiet ((go_at_call 20; exact (bits_any _).quiet))
  go_wp2
  all_goals (go_ret; exact ⟨rfl, bl_drewN ((Below.refl _ _).alloc (Nat.le_refl _) _) _⟩)
set_option maxRecDepth 100000 in
set_option maxHeartbeats 2000000 in
theorem valid_idealFloat_c (f : Nat) (s : ByteArray) (hs : s.toList.isEmpty = false) : Gives 14 #[V ⟨#[105, 100, 101, 97, 108, 70, 108, 111, 97, 116]⟩ 0 0 f s] (.bool false) := by
  intro w
  go_enter Tryd.func14, Tryd.ntmps14
  go_wp2_with (first | (go_at_call 10; refine (width_idealFloat _).mono ?_; rintro e w1 ⟨rfl, rfl⟩) | (go_at_call 21; refine (isFloat_idealFloat _).mono ?_; rintro e w1 ⟨rfl, rfl⟩) | (go_at_call 20; refine (bits_any _ _).mono ?_; rintro e w1 ⟨rfl, rfl⟩))
  go_quiet ((go_at_call 20; exact (bits_any _).quiet))
  go_wp2
  all_goals (go_ret; exact ⟨rfl, bl_drewN ((Below.refl _ _).alloc (Nat.le_refl _) _) _⟩)
set_option maxRecDepth 100000 in
set_option maxHeartbeats 2000000 in
theorem valid_idealFloat_d (f : Nat) : Gives 14 #[V ⟨#[105, 100, 101, 97, 108, 70, 108, 111, 97, 116]⟩ 0 0 f E0] (.bool true) := by
  intro w
  go_enter Tryd.func14, Tryd.ntmps14
  go_wp2_with (first | (go_at_call 10; refine (width_idealFloat _).mono ?_; rintro e w1 ⟨rfl, rfl⟩) | (go_at_call 21; refine (isFloat_idealFloat _).mono ?_; rintro e w1 ⟨rfl, rfl⟩) | (go_at_call 20; refine (bits_any _ _).mono ?_; rintro e w1 ⟨rfl, rfl⟩))
  go_quiet ((go_at_call 20; exact (bits_any _).quiet))
  go_wp2
  all_goals (go_ret; exact ⟨rfl, bl_drewN ((Below.refl _ _).alloc (Nat.le_refl _) _) _⟩)
theorem valid_idealFloat (n u : Int) (f : Nat) (s : ByteArray) : GivesSome 14 #[V ⟨#[105, 100, 101, 97, 108, 70, 108, 111, 97, 116]⟩ n u f s] (n = 0 ∧ u = 0 ∧ s = E0) := by
  cases hn : (n == 0)
  · exact (valid_idealFloat_a n u f s hn).some (fun h => by cases h)
  · obtain rfl : n = 0 := by simpa using hn
    cases hu : (u == 0)
    · exact (valid_idealFloat_b u f s hu).some (fun h => by cases h)
    · obtain rfl : u = 0 := by simpa using hu
      cases hs : s.toList.isEmpty
      · exact (valid_idealFloat_c f s hs).some (fun h => by cases h)
      · obtain rfl := empty_of hs
        exact (valid_idealFloat_d f).some (fun _ => ⟨rfl, rfl, rfl⟩)
set_option maxRecDepth 100000 in
set_option maxHeartbeats 2000000 in
theorem valid_float32_a (n u : Int) (f : Nat) (s : ByteArray) (hn : (n == 0) = false) : Gives 14 #[V ⟨#[102, 108, 111, 97, 116, 51, 50]⟩ n u f s] (.bool false) := by
  intro w
  go_enter Tryd.func14, Tryd.ntmps14
  go_wp2_with (first | (go_at_call 10; refine (width_float32 _).mono ?_; rintro e w1 ⟨rfl, rfl⟩) | (go_at_call 21; refine (isFloat_float32 _).mono ?_; rintro e w1 ⟨rfl, rfl⟩) | (go_at_call 20; refine (bits_any _ _).mono ?_; rintro e w1 ⟨rfl, rfl⟩))
  go_quiet ((go_at_call 20; exact (bits_any _).quiet))
  go_wp2
  all_goals (go_ret; exact ⟨rfl, bl_drewN ((Below.refl _ _).alloc (Nat.le_refl _) _) _⟩)
set_option maxRecDepth 100000 in
set_option maxHeartbeats 2000000 in
theorem valid_float32_b (u : Int) (f : Nat) (s : ByteArray) (hu : (u == 0) = false) : Gives 14 #[V ⟨#[102, 108, 111, 97, 116, 51, 50]⟩ 0 u f s] (.bool false) := by
  intro w
  go_enter Tryd.func14, Tryd.ntmps14
  go_wp2_with (first | (go_at_call 10; refine (width_float32 _).mono ?_; rintro e w1 ⟨rfl, rfl⟩) | (go_at_call 21; refine (isFloat_float32 _).mono ?_; rintro e w1 ⟨rfl, rfl⟩) | (go_at_call 20; refine (bits_any _ _).mono ?_; rintro e w1 ⟨rfl, rfl⟩))
  go_quiet ((go_at_call 20; exact (bits_any _).quiet))
  go_wp2
  all_goals (go_ret; exact ⟨rfl, bl_drewN ((Below.refl _ _).alloc (Nat.le_refl _) _) _⟩)
set_option maxRecDepth 100000 in
set_option maxHeartbeats 2000000 in
theorem valid_float32_c (f : Nat) (s : ByteArray) (hs : s.toList.isEmpty = false) : Gives 14 #[V ⟨#[102, 108, 111, 97, 116, 51, 50]⟩ 0 0 f s] (.bool false) := by
  intro w
  go_enter Tryd.func14, Tryd.ntmps14
  go_wp2_with (first | (go_at_call 10; refine (width_float32 _).mono ?_; rintro e w1 ⟨rfl, rfl⟩) | (go_at_call 21; refine (isFloat_float32 _).mono ?_; rintro e w1 ⟨rfl, rfl⟩) | (go_at_call 20; refine (bits_any _ _).mono ?_; rintro e w1 ⟨rfl, rfl⟩))
  go_quiet ((go_at_call 20; exact (bits_any _).quiet))
  go_wp2
  all_goals (go_ret; exact ⟨rfl, bl_drewN ((Below.refl _ _).alloc (Nat.le_refl _) _) _⟩)
end Go.Proofs.YtliopnbkpdfngaaDoor
