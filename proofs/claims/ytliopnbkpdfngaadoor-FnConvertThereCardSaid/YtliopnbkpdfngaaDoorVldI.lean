/-
  laws.valid by kinds. No condition but the kind.
-/
import Derived.Test.YtliopnbkpdfngaaDoorBits
set_option linter.unusedVariables false
set_option linter.unusedSimpArgs false
namespace Go.Proofs.YtliopnbkpdfngaaDoor
open Go.RowKit
set_option maxRecDepth 100000 in
set_option maxHeartbeats 2000000 in
theorem valid_idealRune_a (n u : Int) (f : Nat) (s : ByteArray) (hu : (u == 0) = false) : Gives 14 #[V ⟨#[105, 100, 101, 97, 108, 82, 117, 110, 101]⟩ n u f s] (.bool false) := by
  intro w
  go_enter Tryd.func14, Tryd.ntmps14
  go_wp2_with (first | (go_at_call 10; refine (width_idealRune _).mono ?_; rintro e w1 ⟨rfl, rfl⟩) | (go_at_call 21; refine (isFloat_idealRune _).mono ?_; rintro e w1 ⟨rfl, rfl⟩) | (go_at_call 20; refine (bits_any _ _).mono ?_; rintro e w1 ⟨rfl, rfl⟩))
  go_quiet ((go_at_call 20; exact (bits_any _).quiet))
  go_wp2
  all_goals (go_ret; exact ⟨rfl, bl_drewN ((Below.refl _ _).alloc (Nat.le_refl _) _) _⟩)
set_option maxRecDepth 100000 in
set_option maxHeartbeats 2000000 in
theorem valid_idealRune_b (n : Int) (f : Nat) (s : ByteArray) (hb : (bitsF f == 0) = false) : Gives 14 #[V ⟨#[105, 100, 101, 97, 108, 82, 117, 110, 101]⟩ n 0 f s] (.bool false) := by
  intro w
  go_enter Tryd.func14, Tryd.ntmps14
  go_wp2_with (first | (go_at_call 10; refine (width_idealRune _).mono ?_; rintro e w1 ⟨rfl, rfl⟩) | (go_at_call 21; refine (isFloat_idealRune _).mono ?_; rintro e w1 ⟨rfl, rfl⟩) | (go_at_call 20; refine (bits_any _ _).mono ?_; rintro e w1 ⟨rfl, rfl⟩))
  go_quiet ((go_at_call 20; exact (bits_any _).quiet))
  go_wp2
  all_goals (go_ret; exact ⟨rfl, bl_drewN ((Below.refl _ _).alloc (Nat.le_refl _) _) _⟩)
set_option maxRecDepth 100000 in
set_option maxHeartbeats 2000000 in
theorem valid_idealRune_c (n : Int) (f : Nat) (s : ByteArray) (hb : (bitsF f == 0) = true) (hs : s.toList.isEmpty = false) : Gives 14 #[V ⟨#[105, 100, 101, 97, 108, 82, 117, 110, 101]⟩ n 0 f s] (.bool false) := by
  intro w
  go_enter Tryd.func14, Tryd.ntmps14
  go_wp2_with (first | (go_at_call 10; refine (width_idealRune _).mono ?_; rintro e w1 ⟨rfl, rfl⟩) | (go_at_call 21; refine (isFloat_idealRune _).mono ?_; rintro e w1 ⟨rfl, rfl⟩) | (go_at_call 20; refine (bits_any _ _).mono ?_; rintro e w1 ⟨rfl, rfl⟩))
  go_quiet ((go_at_call 20; exact (bits_any _).quiet))
  go_wp2
  all_goals (go_ret; exact ⟨rfl, bl_drewN ((Below.refl _ _).alloc (Nat.le_refl _) _) _⟩)
set_option maxRecDepth 100000 in
set_option maxHeartbeats 2000000 in
theorem valid_idealRune_d (n : Int) (f : Nat) (hb : (bitsF f == 0) = true) : Gives 14 #[V ⟨#[105, 100, 101, 97, 108, 82, 117, 110, 101]⟩ n 0 f E0] (.bool (n / 2147483648 == n / 9223372036854775808)) := by
  intro w
  go_enter Tryd.func14, Tryd.ntmps14
  go_wp2_with (first | (go_at_call 10; refine (width_idealRune _).mono ?_; rintro e w1 ⟨rfl, rfl⟩) | (go_at_call 21; refine (isFloat_idealRune _).mono ?_; rintro e w1 ⟨rfl, rfl⟩) | (go_at_call 20; refine (bits_any _ _).mono ?_; rintro e w1 ⟨rfl, rfl⟩))
  go_quiet ((go_at_call 20; exact (bits_any _).quiet))
  go_wp2
  all_goals (go_ret; exact ⟨rfl, bl_drewN ((Below.refl _ _).alloc (Nat.le_refl _) _) _⟩)
theorem valid_idealRune (n u : Int) (f : Nat) (s : ByteArray) : GivesSome 14 #[V ⟨#[105, 100, 101, 97, 108, 82, 117, 110, 101]⟩ n u f s] (u = 0 ∧ bitsF f = 0 ∧ s = E0 ∧ n / 2147483648 = n / 9223372036854775808) := by
  cases hu : (u == 0)
  · exact (valid_idealRune_a n u f s hu).some (fun h => by cases h)
  · obtain rfl : u = 0 := by simpa using hu
    cases hb : (bitsF f == 0)
    · exact (valid_idealRune_b n f s hb).some (fun h => by cases h)
    · cases hs : s.toList.isEmpty
      · exact (valid_idealRune_c n f s hb hs).some (fun h => by cases h)
      · obtain rfl := empty_of hs
        exact (valid_idealRune_d n f hb).some (fun h => ⟨rfl, by simpa using hb, rfl, by simpa using h⟩)
set_option maxRecDepth 100000 in
set_option maxHeartbeats 2000000 in
theorem valid_idealInt_a (n u : Int) (f : Nat) (s : ByteArray) (hu : (u == 0) = false) : Gives 14 #[V ⟨#[105, 100, 101, 97, 108, 73, 110, 116]⟩ n u f s] (.bool false) := by
  intro w
  go_enter Tryd.func14, Tryd.ntmps14
  go_wp2_with (first | (go_at_call 10; refine (width_idealInt _).mono ?_; rintro e w1 ⟨rfl, rfl⟩) | (go_at_call 21; refine (isFloat_idealInt _).mono ?_; rintro e w1 ⟨rfl, rfl⟩) | (go_at_call 20; refine (bits_any _ _).mono ?_; rintro e w1 ⟨rfl, rfl⟩))
  go_quiet ((go_at_call 20; exact (bits_any _).quiet))
  go_wp2
  all_goals (go_ret; exact ⟨rfl, bl_drewN ((Below.refl _ _).alloc (Nat.le_refl _) _) _⟩)
set_option maxRecDepth 100000 in
set_option maxHeartbeats 2000000 in
theorem valid_idealInt_b (n : Int) (f : Nat) (s : ByteArray) (hb : (bitsF f == 0) = false) : Gives 14 #[V ⟨#[105, 100, 101, 97, 108, 73, 110, 116]⟩ n 0 f s] (.bool false) := by
  intro w
  go_enter Tryd.func14, Tryd.ntmps14
  go_wp2_with (first | (go_at_call 10; refine (width_idealInt _).mono ?_; rintro e w1 ⟨rfl, rfl⟩) | (go_at_call 21; refine (isFloat_idealInt _).mono ?_; rintro e w1 ⟨rfl, rfl⟩) | (go_at_call 20; refine (bits_any _ _).mono ?_; rintro e w1 ⟨rfl, rfl⟩))
  go_quiet ((go_at_call 20; exact (bits_any _).quiet))
  go_wp2
  all_goals (go_ret; exact ⟨rfl, bl_drewN ((Below.refl _ _).alloc (Nat.le_refl _) _) _⟩)
set_option maxRecDepth 100000 in
set_option maxHeartbeats 2000000 in
theorem valid_idealInt_c (n : Int) (f : Nat) (s : ByteArray) (hb : (bitsF f == 0) = true) (hs : s.toList.isEmpty = false) : Gives 14 #[V ⟨#[105, 100, 101, 97, 108, 73, 110, 116]⟩ n 0 f s] (.bool false) := by
  intro w
  go_enter Tryd.func14, Tryd.ntmps14
  go_wp2_with (first | (go_at_call 10; refine (width_idealInt _).mono ?_; rintro e w1 ⟨rfl, rfl⟩) | (go_at_call 21; refine (isFloat_idealInt _).mono ?_; rintro e w1 ⟨rfl, rfl⟩) | (go_at_call 20; refine (bits_any _ _).mono ?_; rintro e w1 ⟨rfl, rfl⟩))
  go_quiet ((go_at_call 20; exact (bits_any _).quiet))
  go_wp2
  all_goals (go_ret; exact ⟨rfl, bl_drewN ((Below.refl _ _).alloc (Nat.le_refl _) _) _⟩)
set_option maxRecDepth 100000 in
set_option maxHeartbeats 2000000 in
theorem valid_idealInt_d (n : Int) (f : Nat) (hb : (bitsF f == 0) = true) : Gives 14 #[V ⟨#[105, 100, 101, 97, 108, 73, 110, 116]⟩ n 0 f E0] (.bool true) := by
  intro w
  go_enter Tryd.func14, Tryd.ntmps14
  go_wp2_with (first | (go_at_call 10; refine (width_idealInt _).mono ?_; rintro e w1 ⟨rfl, rfl⟩) | (go_at_call 21; refine (isFloat_idealInt _).mono ?_; rintro e w1 ⟨rfl, rfl⟩) | (go_at_call 20; refine (bits_any _ _).mono ?_; rintro e w1 ⟨rfl, rfl⟩))
  go_quiet ((go_at_call 20; exact (bits_any _).quiet))
  go_wp2
  all_goals (go_ret; exact ⟨rfl, bl_drewN ((Below.refl _ _).alloc (Nat.le_refl _) _) _⟩)
theorem valid_idealInt (n u : Int) (f : Nat) (s : ByteArray) : GivesSome 14 #[V ⟨#[105, 100, 101, 97, 108, 73, 110, 116]⟩ n u f s] (u = 0 ∧ bitsF f = 0 ∧ s = E0) := by
  cases hu : (u == 0)
  · exact (valid_idealInt_a n u f s hu).some (fun h => by cases h)
  · obtain rfl : u = 0 := by simpa using hu
    cases hb : (bitsF f == 0)
    · exact (valid_idealInt_b n f s hb).some (fun h => by cases h)
    · cases hs : s.toList.isEmpty
      · exact (valid_idealInt_c n f s hb hs).some (fun h => by cases h)
      · obtain rfl := empty_of hs
        exact (valid_idealInt_d n f hb).some (fun h => ⟨rfl, by simpa using hb, rfl⟩)
end Go.Proofs.YtliopnbkpdfngaaDoor
