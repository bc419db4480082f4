/-
  laws.same at equal values, laws.kinds, a float32 through impl.in and impl.out. Condition: a float32 is one that float32 has.
-/
import Derived.Test.YtliopnbkpdfngaaDoorSml
import Derived.Test.YtliopnbkpdfngaaDoorIee
import Derived.Deep.QuietTactic
import Derived.BigQuiet
set_option linter.unusedVariables false
set_option linter.unusedSimpArgs false
namespace Go.Proofs.YtliopnbkpdfngaaDoor
open Go.RowKit
set_option maxRecDepth 100000 in
set_option maxHeartbeats 4000000 in
theorem same_ok (k : ByteArray) (n u : Int) (f g : Nat) (s : ByteArray) (h : bitsF f = bitsF g) : Gives 13 #[V k n u f s, V k n u g s] (.bool true) := by
  intro w
  have hg : Still 20 #[.float .f64 g] (.int .u64 (bitsF f)) := by rw [h]; exact bits_any g
  go_enter Tryd.func13, Tryd.ntmps13
  go_wp2_with fail
  go_quiet ((go_at_call 20; first | exact (bits_any f).quiet | exact hg.quiet))
  all_goals go_wp2
  all_goals go_ret
  all_goals exact ⟨rfl, bl_drewN (((Below.refl _ _).alloc (Nat.le_refl _) _).alloc (by simp) _) _⟩
def kindL : List ByteArray := [⟨#[98, 111, 111, 108]⟩, ⟨#[105, 110, 116, 56]⟩, ⟨#[105, 110, 116, 49, 54]⟩, ⟨#[105, 110, 116, 51, 50]⟩, ⟨#[105, 110, 116, 54, 52]⟩, ⟨#[117, 105, 110, 116, 56]⟩, ⟨#[117, 105, 110, 116, 49, 54]⟩, ⟨#[117, 105, 110, 116, 51, 50]⟩, ⟨#[117, 105, 110, 116, 54, 52]⟩, ⟨#[102, 108, 111, 97, 116, 51, 50]⟩, ⟨#[102, 108, 111, 97, 116, 54, 52]⟩, ⟨#[115, 116, 114, 105, 110, 103]⟩, ⟨#[98, 108, 111, 98]⟩]
set_option maxRecDepth 100000 in
set_option maxHeartbeats 4000000 in
theorem kinds_ok (w : World) : Calls Tryd.prog 7 #[] w fun e w' => e = .returned (.slice (some ⟨w.heap.size, 0, none⟩) 13 13) ∧ Below w.heap.size w w' ∧ w'.heap.size = w.heap.size + 1 ∧ ∀ k (hk : k < 13), w'.cell? ⟨w.heap.size, k, none⟩ = some (.string (kindL[k]'hk)) := by
  go_enter Tryd.func7, Tryd.ntmps7
  go_wp2
  go_ret
  refine ⟨rfl, (Below.refl _ _).alloc (Nat.le_refl _) _, by simp, ?_⟩
  intro k hk
  have hk' : k = 0 ∨ k = 1 ∨ k = 2 ∨ k = 3 ∨ k = 4 ∨ k = 5 ∨ k = 6 ∨ k = 7 ∨ k = 8 ∨ k = 9 ∨ k = 10 ∨ k = 11 ∨ k = 12 := by omega
  rcases hk' with rfl | rfl | rfl | rfl | rfl | rfl | rfl | rfl | rfl | rfl | rfl | rfl | rfl <;> simp [go_sem, kindL]
set_option maxRecDepth 100000 in
set_option maxHeartbeats 2000000 in
theorem in_float32 (n u : Int) (f r : Nat) (h : Settled f r) (s : ByteArray) : Gives 18 #[V ⟨#[102, 108, 111, 97, 116, 51, 50]⟩ n u f s] (.iface 45 (.float .f32 r)) := by
  intro w
  have hN : ∀ w, (convert 23 45 (.float .f64 f)).run Tryd.prog w = .ok (.float .f32 r) w := fun w =>
    run_convert_float_float (P := Tryd.prog) w _ _ .f64 .f32 f r (by kernel_rfl) (by kernel_rfl) h.1
  go_enter Tryd.func18, Tryd.ntmps18
  go_wp2
  all_goals (go_ret; exact ⟨rfl, (Below.refl _ _).alloc (Nat.le_refl _) _⟩)
set_option maxRecDepth 100000 in
set_option maxHeartbeats 2000000 in
theorem out_float32 (f r : Nat) (h : Settled f r) : Gives 30 #[.iface 45 (.float .f32 r)] (V ⟨#[102, 108, 111, 97, 116, 51, 50]⟩ 0 0 f E0) := by
  intro w
  have hW : ∀ w, (convert 45 23 (.float .f32 r)).run Tryd.prog w = .ok (.float .f64 f) w := fun w =>
    run_convert_float_float (P := Tryd.prog) w _ _ .f32 .f64 r f (by kernel_rfl) (by kernel_rfl) h.2
  have b1 := @st_float
  have g0 := @tm_bool
  have g1 := @tm_i8
  have g2 := @tm_i16
  have g3 := @tm_i32
  have g4 := @tm_i64
  have g5 := @tm_u8
  have g6 := @tm_u16
  have g7 := @tm_u32
  have g8 := @tm_u64
  have h := fun w => run_ta_hit (P := Tryd.prog) (t := 45) (by kernel_rfl) 20 (.float .f32 r) w
  go_enter Tryd.func30, Tryd.ntmps30
  go_wp2
  exact bodyPost_ret (v := V ⟨#[102, 108, 111, 97, 116, 51, 50]⟩ 0 0 f E0) (by simp [results, Tryd.results30, go_sem]) rfl ⟨rfl, (Below.refl _ _).alloc (Nat.le_refl _) _⟩
end Go.Proofs.YtliopnbkpdfngaaDoor
