/-
  laws.FnConvertThere: the walk of the early answers. Conditions: the contracts of what it calls.
-/
import Derived.Test.YtliopnbkpdfngaaDoorSme
import Derived.Test.YtliopnbkpdfngaaDoorBlob
import Derived.Deep.RegionWith
set_option linter.unusedVariables false
set_option linter.unusedSimpArgs false
namespace Go.Proofs.YtliopnbkpdfngaaDoor
open Go.RowKit
set_option maxRecDepth 100000 in
set_option maxHeartbeats 8000000 in
theorem there_early (K : ByteArray) (n u : Int) (f : Nat) (s : ByteArray) (kind : Int) (p : Prop) (Hc : GivesSome 8 #[V K n u f s] p)
    (h : K.toList.isEmpty = true ∨ kind < 0 ∨ 13 ≤ kind ∨ ¬ p) : Gives 5 #[V K n u f s, .int .i64 kind] (.bool true) := by
  intro w
  go_enter Tryd.func5, Tryd.ntmps5
  go_wp2_with fail
  refine (fits_any K n u f s _).mono ?_
  rintro e w1 ⟨b1, rfl, -, hb1⟩
  obtain ⟨hc1, hf1⟩ := bcell hb1
  have hz1 : w.heap.size < w1.heap.size := by have := hb1.size; simp at this; omega
  cases b1
  · go_wp2_with fail
    go_ret
    exact ⟨rfl, bl_alloc hb1⟩
  · go_wp2_with fail
    refine (kinds_ok _).mono ?_
    rintro e w2 ⟨rfl, hb2, hs2, -⟩
    obtain ⟨hc2, hf2⟩ := bcell hb2
    have hz2 : w.heap.size < w2.heap.size := by have := hb2.size; omega
    go_wp2_with fail
    refine (Hc _).mono ?_
    rintro e w3 ⟨b3, rfl, hp, hb3⟩
    obtain ⟨hc3, hf3⟩ := bcell hb3
    have hz3 : w.heap.size < w3.heap.size := by have := hb3.size; omega
    have hb := bl_trans (bl_trans (bl_alloc hb1) hb2) hb3
    clear hs2
    cases b3
    · clear h hp
      go_wp2_with (go_at_call 9; refine (converts_ok _).mono ?_; rintro e w4 ⟨rfl, hb4⟩)
      go_ret
      exact ⟨rfl, bl_trans hb hb4⟩
    · have hh : K.toList.isEmpty = true ∨ (K.toList.isEmpty = false ∧ kind < 0) ∨ (K.toList.isEmpty = false ∧ ¬ kind < 0 ∧ 13 ≤ kind) := by
        cases hE : K.toList.isEmpty
        · rcases h with h | h | h | h
          · rw [hE] at h; cases h
          · exact .inr (.inl ⟨rfl, h⟩)
          · exact .inr (.inr ⟨rfl, by omega, h⟩)
          · exact absurd (hp rfl) h
        · exact .inl rfl
      clear h hp
      rcases hh with h1 | ⟨h1, h2⟩ | ⟨h1, h2, h3⟩
      all_goals
        go_wp2_with (go_at_call 9; refine (converts_ok _).mono ?_; rintro e w4 ⟨rfl, hb4⟩)
        go_ret
        exact ⟨rfl, bl_trans hb hb4⟩
set_option maxRecDepth 100000 in
set_option maxHeartbeats 8000000 in
theorem there_narrow (K : ByteArray) (n u : Int) (f g : Nat) (s : ByteArray) (k : Nat) (hk : k < 13) (p : Prop) (wd to : Int) (sg so : Bool) (T : ByteArray) (hT : kindL[k]'hk = T) (hK : K.toList.isEmpty = false) (hg : bitsF g = bitsF f)
    (Hc : GivesSome 8 #[V K n u f s] p) (Ho : p → Gives 11 #[V K n u f s, .string K] (.tuple #[V K n u g s, .int .i64 0]))
    (Hw : Still 10 #[.string K] (.tuple #[.int .i64 wd, .bool sg])) (Ht : Still 10 #[.string T] (.tuple #[.int .i64 to, .bool so]))
    (h : (wd == 0) = true ∨ ((wd == 0) = false ∧ to < wd) ∨ ((wd == 0) = false ∧ ¬ to < wd ∧ (sg == so) = false)) : Gives 5 #[V K n u f s, .int .i64 k] (.bool true) := by
  intro w
  have HO := Lib.hid Ho
  clear Ho
  have b1 := @st_float
  go_enter Tryd.func5, Tryd.ntmps5
  go_wp2_with fail
  refine (fits_any K n u f s _).mono ?_
  rintro e w1 ⟨b1, rfl, -, hb1⟩
  obtain ⟨hc1, hf1⟩ := bcell hb1
  have hz1 : w.heap.size < w1.heap.size := by have := hb1.size; simp at this; omega
  cases b1
  · go_wp2_with fail
    go_ret
    exact ⟨rfl, bl_alloc hb1⟩
  · go_wp2_with fail
    refine (kinds_ok _).mono ?_
    rintro e w2 ⟨rfl, hb2, hs2, hcell⟩
    replace hcell := hcell k hk
    rw [hT] at hcell
    obtain ⟨hc2, hf2⟩ := bcell hb2
    have hz2 : w.heap.size < w2.heap.size := by have := hb2.size; omega
    have hy2 : w1.heap.size < w2.heap.size := by omega
    go_wp2_with fail
    refine (Hc _).mono ?_
    rintro e w3 ⟨b3, rfl, hp, hb3⟩
    obtain ⟨hc3, hf3⟩ := bcell hb3
    have hz3 : w.heap.size < w3.heap.size := by have := hb3.size; omega
    have hy3 : w1.heap.size < w3.heap.size := by have := hb3.size; omega
    have hb := bl_trans (bl_trans (bl_alloc hb1) hb2) hb3
    clear hs2
    cases b3
    · clear h hp
      go_wp2_with (go_at_call 9; refine (converts_ok _).mono ?_; rintro e w4 ⟨rfl, hb4⟩)
      go_ret
      exact ⟨rfl, bl_trans hb hb4⟩
    · have ho := HO.out (hp rfl)
      clear hp HO
      have hk0 : ¬ (k : Int) < 0 := by omega
      have hk1 : ¬ 13 ≤ (k : Int) := by omega
      go_wp2_with fail
      refine (ho _).mono ?_
      rintro e w4 ⟨rfl, hb4⟩
      obtain ⟨hc4, hf4⟩ := bcell hb4
      have hz4 : w.heap.size < w4.heap.size := by have := hb4.size; omega
      have hy4 : w1.heap.size < w4.heap.size := by have := hb4.size; omega
      have hbb := bl_trans hb hb4
      go_wp2_with fail
      refine (same_ok K n u g f s hg _).mono ?_
      rintro e w5 ⟨rfl, hb5⟩
      obtain ⟨hc5, hf5⟩ := bcell hb5
      have hz5 : w4.heap.size < w5.heap.size := by have := hb5.size; simp at this; omega
      have b9 : w.heap.size < w5.heap.size := by omega
      go_wp2_with fail
      refine (Hw _).mono ?_
      rintro e w6 ⟨rfl, rfl⟩
      go_wp2_with fail
      refine (Ht _).mono ?_
      rintro e w6 ⟨rfl, rfl⟩
      have hb6 : Below w.heap.size w w5 := bl_trans hbb (bl_trans ((Below.refl _ _).alloc (Nat.le_refl _) _) hb5)
      rcases h with h | ⟨h1, h2⟩ | ⟨h1, h2, h3⟩
      all_goals
        go_wp2_with (go_at_call 9; refine (converts_ok _).mono ?_; rintro e w7 ⟨rfl, hb7⟩)
        go_ret
        exact ⟨rfl, bl_trans hb6 hb7⟩
end Go.Proofs.YtliopnbkpdfngaaDoor
