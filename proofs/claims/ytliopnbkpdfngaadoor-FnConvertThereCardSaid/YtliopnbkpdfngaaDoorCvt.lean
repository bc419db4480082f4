/-
  impl.convert and impl.Convert out of the contracts of what they call. Conditions: those contracts.
-/
import Derived.Test.YtliopnbkpdfngaaDoorOut
set_option linter.unusedVariables false
set_option linter.unusedSimpArgs false
namespace Go.Proofs.YtliopnbkpdfngaaDoor
open Go.RowKit
/-- a call gives this value, and leaves the world as it was -/
def Still (f : FuncId) (args : Array Value) (v : Value) : Prop := ∀ w, Calls Tryd.prog f args w fun e w' => e = .returned v ∧ w = w'
theorem Still.gives {f : FuncId} {args : Array Value} {v : Value} (h : Still f args v) : Gives f args v :=
  fun w => (h w).mono fun e w' ⟨he, hw⟩ => ⟨he, hw ▸ Below.refl _ _⟩
set_option maxRecDepth 100000 in
set_option maxHeartbeats 1000000 in
theorem zzconvert_ok (v v' : Value) (code : Int) (H : Gives 31 #[v, .int .i64 code] (.tuple #[v', .nilIface])) : Gives 23 #[v, .int .i64 code] (.tuple #[v', .nilIface]) := by
  intro w
  go_enter Tryd.func23, Tryd.ntmps23
  go_wp2_with (go_at_call 31; refine (H _).mono ?_; rintro e w1 ⟨rfl, hb⟩)
  go_ret2
  exact ⟨rfl, hb⟩
set_option maxRecDepth 100000 in
set_option maxHeartbeats 1000000 in
theorem iconv_ok (v v' : Value) (code : Int) (hcode : (code == 0) = false) (k : ByteArray) (n u : Int) (f : Nat) (s : ByteArray)
    (H1 : Gives 23 #[v, .int .i64 code] (.tuple #[v', .nilIface])) (H2 : Gives 22 #[v', .nilIface] (.tuple #[V k n u f s, .int .i64 0])) :
    Gives 17 #[v, .int .i64 code] (.tuple #[V k n u f s, .int .i64 0]) := by
  intro w
  have b1 := @st_float
  go_enter Tryd.func17, Tryd.ntmps17
  go_wp2_with (first | (go_at_call 23; refine (H1 _).mono ?_; rintro e w1 ⟨rfl, hb⟩; obtain ⟨hc, hf⟩ := bcell hb; have hz : w.heap.size < w1.heap.size := (by have := hb.size; simp at this; omega)) | (go_at_call 22; refine (H2 _).mono ?_; rintro e w2 ⟨rfl, hb2⟩; obtain ⟨hc2, hf2⟩ := bcell hb2; have hz2 : w.heap.size < w2.heap.size := (by have := hb2.size; omega)))
  exact bodyPost_ret (v := .tuple #[V k n u f s, .int .i64 0]) (by simp [results, Tryd.results17, go_sem, hc, hz, hc2, hz2]) rfl ⟨rfl, ((((((bl_trans (bl_alloc hb) hb2).setCell (Nat.le_refl _) _).setCell (Nat.le_refl _) _).setCell (Nat.le_refl _) _).setCell (Nat.le_refl _) _).setCell (Nat.le_refl _) _)⟩
set_option maxRecDepth 100000 in
set_option maxHeartbeats 1000000 in
theorem convert_ok (k : ByteArray) (n u : Int) (f : Nat) (s t : ByteArray) (v : Value) (code : Int) (k' : ByteArray) (n' u' : Int) (f' : Nat) (s' : ByteArray)
    (H1 : Gives 18 #[V k n u f s] v) (H2 : Still 19 #[.string t] (.int .i64 code))
    (H3 : Gives 17 #[v, .int .i64 code] (.tuple #[V k' n' u' f' s', .int .i64 0])) :
    Gives 11 #[V k n u f s, .string t] (.tuple #[V k' n' u' f' s', .int .i64 0]) := by
  intro w
  have b1 := @st_float
  go_enter Tryd.func11, Tryd.ntmps11
  go_wp2_with (first | (go_at_call 18; refine (H1 _).mono ?_; rintro e w1 ⟨rfl, hb⟩; obtain ⟨hc, hf⟩ := bcell hb; have hz : w.heap.size + 1 < w1.heap.size := (by have := hb.size; simp at this; omega)) | (go_at_call 19; refine (H2 _).mono ?_; rintro e w2 ⟨rfl, rfl⟩) | (go_at_call 17; refine (H3 _).mono ?_; rintro e w2 ⟨rfl, hb2⟩; obtain ⟨hc2, hf2⟩ := bcell hb2; have hz2 : w.heap.size + 1 < w2.heap.size := (by have := hb2.size; omega)))
  have hbb : Below w.heap.size w w2 := bl_trans (((((Below.refl _ _).alloc (Nat.le_refl _) _).alloc (by simp) _)).trans (hb.mono (by simp; omega))) hb2
  exact bodyPost_ret (v := .tuple #[V k' n' u' f' s', .int .i64 0]) (by simp [results, Tryd.results11, go_sem, hc, hz, hc2, hz2]) rfl ⟨rfl, (((((hbb.setCell (by simp) _).setCell (by simp) _).setCell (by simp) _).setCell (by simp) _).setCell (by simp) _)⟩
end Go.Proofs.YtliopnbkpdfngaaDoor
