/-
  laws.FnConvertRune: the walk, out of the contracts of what it calls. Conditions: those contracts.
-/
import Derived.Test.YtliopnbkpdfngaaDoorSml
import Derived.Test.YtliopnbkpdfngaaDoorUtf
import Derived.Deep.RegionWith
set_option linter.unusedVariables false
set_option linter.unusedSimpArgs false
namespace Go.Proofs.YtliopnbkpdfngaaDoor
open Go.RowKit
abbrev KStr : ByteArray := ⟨#[115, 116, 114, 105, 110, 103]⟩
set_option maxRecDepth 100000 in
set_option maxHeartbeats 4000000 in
theorem rune_early (K : ByteArray) (n u : Int) (f : Nat) (s : ByteArray) (wd : Int) (sg : Bool) (p : Prop)
    (Hw : Still 10 #[.string K] (.tuple #[.int .i64 wd, .bool sg])) (Hc : GivesSome 8 #[V K n u f s] p)
    (h : (wd == 0) = true ∨ (p → n < -2147483648 ∨ 2147483648 ≤ n ∨ 2147483648 ≤ u)) : Gives 4 #[V K n u f s] (.bool true) := by
  intro w
  go_enter Tryd.func4, Tryd.ntmps4
  go_wp2_with fail
  refine (fits_any K n u f s _).mono ?_
  rintro e w1 ⟨b1, rfl, -, hb1⟩
  obtain ⟨hc1, hf1⟩ := bcell hb1
  have hz1 : w.heap.size < w1.heap.size := by have := hb1.size; simp at this; omega
  cases b1
  · go_wp2_with fail
    go_ret
    exact ⟨rfl, bl_alloc hb1⟩
  · go_wp2_with fail
    refine (Hw _).mono ?_
    rintro e w2 ⟨rfl, rfl⟩
    go_wp2_with fail
    refine (Hc _).mono ?_
    rintro e w2 ⟨b2, rfl, hp, hb2⟩
    obtain ⟨hc2, hf2⟩ := bcell hb2
    have hz2 : w.heap.size < w2.heap.size := by have := hb2.size; omega
    cases b2
    · clear hp h
      go_wp2_with (go_at_call 9; refine (converts_ok _).mono ?_; rintro e w3 ⟨rfl, hb3⟩)
      go_ret
      exact ⟨rfl, bl_trans (bl_trans (bl_alloc hb1) hb2) hb3⟩
    · have hh : (wd == 0) = true ∨ ((wd == 0) = false ∧ n < -2147483648) ∨ ((wd == 0) = false ∧ ¬ n < -2147483648 ∧ 2147483648 ≤ n) ∨ ((wd == 0) = false ∧ ¬ n < -2147483648 ∧ ¬ 2147483648 ≤ n ∧ 2147483648 ≤ u) := by
        cases hwd : (wd == 0)
        · rcases h with h | h
          · rw [hwd] at h; cases h
          · have := h (hp rfl)
            right
            by_cases a : n < -2147483648
            · exact .inl ⟨rfl, a⟩
            · by_cases b : 2147483648 ≤ n
              · exact .inr (.inl ⟨rfl, a, b⟩)
              · exact .inr (.inr ⟨rfl, a, b, by omega⟩)
        · exact .inl rfl
      clear h hp
      rcases hh with h1 | ⟨h1, h2⟩ | ⟨h1, h2, h3⟩ | ⟨h1, h2, h3, h4⟩
      all_goals
        go_wp2_with (go_at_call 9; refine (converts_ok _).mono ?_; rintro e w3 ⟨rfl, hb3⟩)
        go_ret
        exact ⟨rfl, bl_trans (bl_trans (bl_alloc hb1) hb2) hb3⟩
theorem bl_of_drew {B : Nat} {w w1 : World} (h : Below B w.drew w1) : Below B w w1 := ⟨h.os, h.tape, h.output, h.size, h.block⟩
set_option maxRecDepth 100000 in
set_option maxHeartbeats 8000000 in
theorem rune_s (K : ByteArray) (n : Int) (hn0 : -2147483648 ≤ n) (hn1 : n < 2147483648) (f : Nat) (s : ByteArray) (wd : Int) (sg : Bool) (p : Prop) (S : ByteArray) (c : Int)
    (Hw : Still 10 #[.string K] (.tuple #[.int .i64 wd, .bool sg])) (Hc : GivesSome 8 #[V K n 0 f s] p) (hwd : (wd == 0) = false)
    (Hcv : Gives 11 #[V K n 0 f s, .string KStr] (.tuple #[V KStr 0 0 0 S, .int .i64 0]))
    (Hu : Gives 12 #[.int .i64 c] (.string S))
    (h : (n < 0 ∧ c = 65533) ∨ (1114111 < n ∧ c = 65533) ∨ (55296 ≤ n ∧ n ≤ 57343 ∧ c = 65533) ∨ (0 ≤ n ∧ n < 55296 ∧ c = n) ∨ (57343 < n ∧ n ≤ 1114111 ∧ c = n)) :
    Gives 4 #[V K n 0 f s] (.bool true) := by
  intro w
  have b1 := @st_float
  go_enter Tryd.func4, Tryd.ntmps4
  go_wp2_with fail
  refine (fits_any K n 0 f s _).mono ?_
  rintro e w1 ⟨b1, rfl, -, hb1⟩
  obtain ⟨hc1, hf1⟩ := bcell hb1
  have hz1 : w.heap.size < w1.heap.size := by have := hb1.size; simp at this; omega
  cases b1
  · go_wp2_with fail
    go_ret
    exact ⟨rfl, bl_alloc hb1⟩
  · go_wp2_with fail
    refine (Hw _).mono ?_
    rintro e w2 ⟨rfl, rfl⟩
    go_wp2_with fail
    refine (Hc _).mono ?_
    rintro e w2 ⟨b2, rfl, -, hb2⟩
    obtain ⟨hc2, hf2⟩ := bcell hb2
    have hz2 : w.heap.size < w2.heap.size := by have := hb2.size; omega
    cases b2
    · clear h
      go_wp2_with (go_at_call 9; refine (converts_ok _).mono ?_; rintro e w3 ⟨rfl, hb3⟩)
      go_ret
      exact ⟨rfl, bl_trans (bl_trans (bl_alloc hb1) hb2) hb3⟩
    · have hb12 := bl_trans (bl_alloc hb1) hb2
      rcases h with ⟨h1, rfl⟩ | ⟨h1, rfl⟩ | ⟨h1, h2, rfl⟩ | ⟨h1, h2, rfl⟩ | ⟨h1, h2, rfl⟩
      all_goals
        go_wp2_with (go_at_call 11; refine (Hcv _).mono ?_; rintro e w3 ⟨rfl, hb3⟩; obtain ⟨hc3, hf3⟩ := bcell hb3; have hz3 : w.heap.size < w3.heap.size := (by have := hb3.size; omega))
        go_region_with (first | (go_at_call 12; refine (Hu _).mono ?_; rintro e w4 ⟨rfl, hb4⟩; obtain ⟨hc4, hf4⟩ := bcell hb4; have hz4 : w.heap.size < w4.heap.size := (by have := hb4.size; simp at this; omega)) | (go_at_call 9; refine (converts_ok _).mono ?_; rintro e w5 ⟨rfl, hb5⟩))
        all_goals go_wp2
        all_goals go_ret
        all_goals exact ⟨rfl, bl_trans (bl_trans ((bl_trans hb12 hb3).alloc (bl_trans hb12 hb3).size _) (bl_of_drew hb4)) hb5⟩
end Go.Proofs.YtliopnbkpdfngaaDoor
