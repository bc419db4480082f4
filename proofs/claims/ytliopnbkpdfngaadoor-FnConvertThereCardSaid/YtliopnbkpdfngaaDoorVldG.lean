/-
  A float64 as a float32 and back, as the model answers it, whatever the float is; laws.valid at float32. No condition.
-/
import Derived.Test.YtliopnbkpdfngaaDoorVldF
import Derived.Deep.RegionWith
import Derived.Laws.ComplexArith
set_option linter.unusedVariables false
set_option linter.unusedSimpArgs false
namespace Go.Proofs.YtliopnbkpdfngaaDoor
open Go.RowKit
/-- a float64's word as a float32: the nearest one, or what the tape says -/
def narK (f : Nat) : Nat := if (floatToFloatBits .f64 f .f32).isSome then 0 else 1
def narQ (f : Nat) : Question := match FloatKind.f64.decode f with
  | .nan _ _ => .nanConv .f32 f
  | _ => .floatToFloat f
def narV (f : Nat) (w : World) : Nat := match floatToFloatBits .f64 f .f32 with
  | some r => r
  | none => (narQ f).cut (w.tape w.drawn (narQ f))
def widK (x : Nat) : Nat := if (floatToFloatBits .f32 x .f64).isSome then 0 else 1
def widQ (x : Nat) : Question := match FloatKind.f32.decode x with
  | .nan _ _ => .nanConv .f64 x
  | _ => .floatToFloat x
def widV (x : Nat) (w : World) : Nat := match floatToFloatBits .f32 x .f64 with
  | some r => r
  | none => (widQ x).cut (w.tape w.drawn (widQ x))
theorem run_nar_any (P : Program) (f : Nat) (w : World) : (Conv.floatToFloat .f64 f .f32).run P w = .ok (.float .f32 (narV f w)) (w.drewN (narK f)) := by
  cases h : floatToFloatBits .f64 f .f32 with
  | some r => rw [run_floatToFloat w h]; simp [narV, narK, h]; rfl
  | none =>
    simp only [narV, narK, h]
    unfold floatToFloatBits at h
    rw [if_neg (by decide)] at h
    unfold Conv.floatToFloat
    rw [if_neg (by decide)]
    cases hd : FloatKind.f64.decode f with
    | nan a b => simp [narQ, hd, choose, Question.forced]; rfl
    | infinity a => rw [hd] at h; cases h
    | number a b c =>
      rw [hd] at h
      dsimp only at h ⊢
      split at h
      · rename_i hi; simp [narQ, hd, hi, choose, Question.forced]; rfl
      · cases h
theorem run_wid_any (P : Program) (x : Nat) (w : World) : (Conv.floatToFloat .f32 x .f64).run P w = .ok (.float .f64 (widV x w)) (w.drewN (widK x)) := by
  cases h : floatToFloatBits .f32 x .f64 with
  | some r => rw [run_floatToFloat w h]; simp [widV, widK, h]; rfl
  | none =>
    simp only [widV, widK, h]
    unfold floatToFloatBits at h
    rw [if_neg (by decide)] at h
    unfold Conv.floatToFloat
    rw [if_neg (by decide)]
    cases hd : FloatKind.f32.decode x with
    | nan a b => simp [widQ, hd, choose, Question.forced]; rfl
    | infinity a => rw [hd] at h; cases h
    | number a b c =>
      rw [hd] at h
      dsimp only at h ⊢
      split at h
      · rename_i hi; simp [widQ, hd, hi, choose, Question.forced]; rfl
      · cases h
theorem run_nar (f : Nat) (w : World) : (convert 23 45 (.float .f64 f)).run Tryd.prog w = .ok (.float .f32 (narV f w)) (w.drewN (narK f)) := by
  rw [← run_nar_any Tryd.prog]
  have h1 : Tryd.prog.underlying 23 = some (.float .f64) := by kernel_rfl
  have h2 : Tryd.prog.underlying 45 = some (.float .f32) := by kernel_rfl
  simp [convert, run_underlying h1, run_underlying h2]
theorem run_wid (x : Nat) (w : World) : (convert 45 23 (.float .f32 x)).run Tryd.prog w = .ok (.float .f64 (widV x w)) (w.drewN (widK x)) := by
  rw [← run_wid_any Tryd.prog]
  have h1 : Tryd.prog.underlying 23 = some (.float .f64) := by kernel_rfl
  have h2 : Tryd.prog.underlying 45 = some (.float .f32) := by kernel_rfl
  simp [convert, run_underlying h1, run_underlying h2]
set_option maxRecDepth 100000 in
set_option maxHeartbeats 4000000 in
theorem valid_float32_d (f : Nat) : GivesSome 14 #[V ⟨#[102, 108, 111, 97, 116, 51, 50]⟩ 0 0 f E0] (∃ w1 w2, bitsF (widV (narV f w1) w2) = bitsF f) := by
  intro w
  have hN := run_nar f
  have hW := run_wid
  go_enter Tryd.func14, Tryd.ntmps14
  go_wp2_with (first | (go_at_call 10; refine (width_float32 _).mono ?_; rintro e w1 ⟨rfl, rfl⟩) | (go_at_call 21; refine (isFloat_float32 _).mono ?_; rintro e w1 ⟨rfl, rfl⟩))
  go_region_with (go_at_call 20; refine (bits_any _ _).mono ?_; rintro e w1 ⟨rfl, rfl⟩)
  all_goals go_wp2
  all_goals go_ret
  all_goals exact ⟨_, rfl, fun h => ⟨_, _, by simpa using h⟩, bl_drewN ((Below.refl _ _).alloc (Nat.le_refl _) _) _⟩
theorem valid_float32 (n u : Int) (f : Nat) (s : ByteArray) : GivesSome 14 #[V ⟨#[102, 108, 111, 97, 116, 51, 50]⟩ n u f s] (n = 0 ∧ u = 0 ∧ s = E0 ∧ ∃ w1 w2, bitsF (widV (narV f w1) w2) = bitsF f) := by
  cases hn : (n == 0)
  · exact (valid_float32_a n u f s hn).some (fun h => by cases h)
  · obtain rfl : n = 0 := by simpa using hn
    cases hu : (u == 0)
    · exact (valid_float32_b u f s hu).some (fun h => by cases h)
    · obtain rfl : u = 0 := by simpa using hu
      cases hs : s.toList.isEmpty
      · exact (valid_float32_c f s hs).some (fun h => by cases h)
      · obtain rfl := empty_of hs
        exact (valid_float32_d f).imp (fun h => ⟨rfl, rfl, rfl, h⟩)
end Go.Proofs.YtliopnbkpdfngaaDoor
