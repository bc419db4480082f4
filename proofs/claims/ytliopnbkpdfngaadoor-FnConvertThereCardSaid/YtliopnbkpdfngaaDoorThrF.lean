/-
  laws.FnConvertThere: the walk to its end. Conditions: the contracts of what it calls.
-/
import Derived.Test.YtliopnbkpdfngaaDoorThrE
import Derived.Deep.RegionWith
set_option linter.unusedVariables false
set_option linter.unusedSimpArgs false
namespace Go.Proofs.YtliopnbkpdfngaaDoor
open Go.RowKit
theorem bl_undrew {w w1 : World} (h : Below w.drew.heap.size w.drew w1) : Below w.heap.size w w1 := ⟨h.os, h.tape, h.output, h.size, h.block⟩
set_option maxRecDepth 100000 in
set_option maxHeartbeats 8000000 in
theorem there_full (K : ByteArray) (n u : Int) (f g : Nat) (s : ByteArray) (k : Nat) (hk : k < 13) (p : Prop) (wd to : Int) (sg so : Bool) (T : ByteArray) (hT : kindL[k]'hk = T) (hK : K.toList.isEmpty = false) (hg : bitsF g = bitsF f)
    (Hc : GivesSome 8 #[V K n u f s] p) (Ho : p → Gives 11 #[V K n u f s, .string K] (.tuple #[V K n u g s, .int .i64 0]))
    (Hw : Still 10 #[.string K] (.tuple #[.int .i64 wd, .bool sg])) (Ht : Still 10 #[.string T] (.tuple #[.int .i64 to, .bool so]))
    (Hv : p → Gives 11 #[V K n u f s, .string T] (.tuple #[V T n u 0 s, .int .i64 0])) (Hk : p → Gives 11 #[V T n u 0 s, .string K] (.tuple #[V K n u g s, .int .i64 0]))
    (h1 : (wd == 0) = false) (h2 : ¬ to < wd) (h3 : (sg == so) = true) : Gives 5 #[V K n u f s, .int .i64 k] (.bool true) := by
  intro w
  have HO := Lib.hid Ho
  have HV := Lib.hid Hv
  have HK := Lib.hid Hk
  clear Ho Hv Hk
  have b1 := @st_float
  go_enter Tryd.func5, Tryd.ntmps5
  go_wp2_with fail
  refine (fits_any K n u f s _).mono ?_
  rintro e w1 ⟨b1, rfl, -, hb1⟩
  obtain ⟨hc1, hf1⟩ := bcell hb1
  have hz1 : w.heap.size < w1.heap.size := by have := hb1.size; simp at this; omega
  cases b1
  · go_wp2_with fail
    go_ret
    exact ⟨rfl, bl_alloc hb1⟩
  · go_wp2_with fail
    refine (kinds_ok _).mono ?_
    rintro e w2 ⟨rfl, hb2, hs2, hcell⟩
    replace hcell := hcell k hk
    rw [hT] at hcell
    obtain ⟨hc2, hf2⟩ := bcell hb2
    have hz2 : w.heap.size < w2.heap.size := by have := hb2.size; omega
    have hy2 : w1.heap.size < w2.heap.size := by omega
    go_wp2_with fail
    refine (Hc _).mono ?_
    rintro e w3 ⟨b3, rfl, hp, hb3⟩
    obtain ⟨hc3, hf3⟩ := bcell hb3
    have hz3 : w.heap.size < w3.heap.size := by have := hb3.size; omega
    have hy3 : w1.heap.size < w3.heap.size := by have := hb3.size; omega
    have hb := bl_trans (bl_trans (bl_alloc hb1) hb2) hb3
    clear hs2
    cases b3
    · clear hp
      go_wp2_with (go_at_call 9; refine (converts_ok _).mono ?_; rintro e w4 ⟨rfl, hb4⟩)
      go_ret
      exact ⟨rfl, bl_trans hb hb4⟩
    · have ho := HO.out (hp rfl)
      have hv := HV.out (hp rfl)
      have hkk := HK.out (hp rfl)
      clear hp HO HV HK
      have hk0 : ¬ (k : Int) < 0 := by omega
      have hk1 : ¬ 13 ≤ (k : Int) := by omega
      go_wp2_with fail
      refine (ho _).mono ?_
      rintro e w4 ⟨rfl, hb4⟩
      obtain ⟨hc4, hf4⟩ := bcell hb4
      have hz4 : w.heap.size < w4.heap.size := by have := hb4.size; omega
      have hy4 : w1.heap.size < w4.heap.size := by have := hb4.size; omega
      have hbb := bl_trans hb hb4
      go_wp2_with fail
      refine (same_ok K n u g f s hg _).mono ?_
      rintro e w5 ⟨rfl, hb5⟩
      obtain ⟨hc5, hf5⟩ := bcell (bl_alloc hb5)
      have hz5 : w4.heap.size < w5.heap.size := by have := hb5.size; simp at this; omega
      have b9 : w.heap.size < w5.heap.size := by omega
      go_wp2_with fail
      refine (Hw _).mono ?_
      rintro e w6 ⟨rfl, rfl⟩
      go_wp2_with fail
      refine (Ht _).mono ?_
      rintro e w6 ⟨rfl, rfl⟩
      have hb6 : Below w.heap.size w w5 := bl_trans hbb (bl_trans ((Below.refl _ _).alloc (Nat.le_refl _) _) hb5)
      go_wp2_with fail
      have hy5 : w1.heap.size < w5.heap.size := by omega
      go_region_with (go_at_call 11; refine (hv _).mono ?_; rintro e w7 ⟨rfl, hb7⟩; have hb7' := bl_undrew hb7; obtain ⟨hc7, hf7⟩ := bcell hb7'; have hs7 := hb7.size; simp at hs7; have hz7 : w.heap.size < w7.heap.size := (by omega); have hq7 : w.heap.size < w7.heap.size + 1 := (by omega); try (have hx7 : w5.heap.size < w7.heap.size := (by omega)))
      all_goals
        go_wp2_with fail
        refine (hkk _).mono ?_
        rintro e w8 ⟨rfl, hb8⟩
        obtain ⟨hc8, hf8⟩ := bcell hb8
        have hs8 := hb8.size
        simp at hs8
        have hy8 : w.heap.size < w8.heap.size := by omega
        first
          | have hz8 : w7.heap.size < w8.heap.size := by omega
          | have hz8 : w5.heap.size < w8.heap.size := by omega
        have hq8 : w.heap.size < w8.heap.size + 1 := by omega
        go_wp2_with fail
      all_goals
        refine (same_ok K n u g f s hg _).mono ?_
        rintro e w9 ⟨rfl, hb9⟩
        have hb9' := bl_alloc hb9
        obtain ⟨hc9, hf9⟩ := bcell hb9'
        have hs9 := hb9.size
        simp at hs9
        have hz9 : w.heap.size < w9.heap.size := by omega
        go_wp2_with (go_at_call 9; refine (converts_ok _).mono ?_; rintro e w10 ⟨rfl, hb10⟩)
        go_ret
        refine ⟨rfl, bl_trans (bl_trans ?_ hb9') hb10⟩
        first
          | exact bl_trans (bl_trans hb6 hb7') (bl_alloc hb8)
          | exact ((((((bl_trans hb6 (bl_alloc hb7')).setCell (Nat.le_of_lt b9) _).setCell (Nat.le_of_lt b9) _).setCell (Nat.le_of_lt b9) _).setCell (Nat.le_of_lt b9) _).setCell (Nat.le_of_lt b9) _).trans (hb8.mono (by simp; omega))
end Go.Proofs.YtliopnbkpdfngaaDoor
