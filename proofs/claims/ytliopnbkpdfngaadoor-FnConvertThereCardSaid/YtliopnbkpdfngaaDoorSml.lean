/-
  laws.zzFits1, num, converts; impl.Convert in one step; which kind a text names. No condition.
-/
import Derived.Test.YtliopnbkpdfngaaDoorCon
import Derived.Test.YtliopnbkpdfngaaDoorConvB
import Derived.Test.YtliopnbkpdfngaaDoorConvS
import Derived.Test.YtliopnbkpdfngaaDoorIn
import Derived.Lib.Strings
set_option linter.unusedVariables false
set_option linter.unusedSimpArgs false
namespace Go.Proofs.YtliopnbkpdfngaaDoor
open Go.RowKit
theorem of_toList {K : ByteArray} {l : List UInt8} (h : (K.toList == l) = true) : K = ⟨l.toArray⟩ := by
  have h' : K.toList = l := by simpa using h
  rw [Lib.toList_data] at h'
  cases K with
  | mk a => subst h'; rfl
theorem kind_cases (K : ByteArray) : Unk K ∨ K = E0 ∨ K = ⟨#[98, 111, 111, 108]⟩ ∨ K = ⟨#[105, 110, 116, 56]⟩ ∨ K = ⟨#[105, 110, 116, 49, 54]⟩ ∨ K = ⟨#[105, 110, 116, 51, 50]⟩ ∨ K = ⟨#[105, 110, 116, 54, 52]⟩ ∨ K = ⟨#[117, 105, 110, 116, 56]⟩ ∨ K = ⟨#[117, 105, 110, 116, 49, 54]⟩ ∨ K = ⟨#[117, 105, 110, 116, 51, 50]⟩ ∨ K = ⟨#[117, 105, 110, 116, 54, 52]⟩ ∨ K = ⟨#[102, 108, 111, 97, 116, 51, 50]⟩ ∨ K = ⟨#[102, 108, 111, 97, 116, 54, 52]⟩ ∨ K = ⟨#[115, 116, 114, 105, 110, 103]⟩ ∨ K = ⟨#[98, 108, 111, 98]⟩ ∨ K = ⟨#[105, 100, 101, 97, 108, 73, 110, 116]⟩ ∨ K = ⟨#[105, 100, 101, 97, 108, 82, 117, 110, 101]⟩ ∨ K = ⟨#[105, 100, 101, 97, 108, 85, 105, 110, 116]⟩ ∨ K = ⟨#[105, 100, 101, 97, 108, 70, 108, 111, 97, 116]⟩ := by
  by_cases kn : K.toList.isEmpty = true
  · exact .inr (.inl (empty_of kn))
  by_cases h0 : (K.toList == [98, 111, 111, 108]) = true
  · exact .inr (.inr (.inl (of_toList h0)))
  by_cases h1 : (K.toList == [105, 110, 116, 56]) = true
  · exact .inr (.inr (.inr (.inl (of_toList h1))))
  by_cases h2 : (K.toList == [105, 110, 116, 49, 54]) = true
  · exact .inr (.inr (.inr (.inr (.inl (of_toList h2)))))
  by_cases h3 : (K.toList == [105, 110, 116, 51, 50]) = true
  · exact .inr (.inr (.inr (.inr (.inr (.inl (of_toList h3))))))
  by_cases h4 : (K.toList == [105, 110, 116, 54, 52]) = true
  · exact .inr (.inr (.inr (.inr (.inr (.inr (.inl (of_toList h4)))))))
  by_cases h5 : (K.toList == [117, 105, 110, 116, 56]) = true
  · exact .inr (.inr (.inr (.inr (.inr (.inr (.inr (.inl (of_toList h5))))))))
  by_cases h6 : (K.toList == [117, 105, 110, 116, 49, 54]) = true
  · exact .inr (.inr (.inr (.inr (.inr (.inr (.inr (.inr (.inl (of_toList h6)))))))))
  by_cases h7 : (K.toList == [117, 105, 110, 116, 51, 50]) = true
  · exact .inr (.inr (.inr (.inr (.inr (.inr (.inr (.inr (.inr (.inl (of_toList h7))))))))))
  by_cases h8 : (K.toList == [117, 105, 110, 116, 54, 52]) = true
  · exact .inr (.inr (.inr (.inr (.inr (.inr (.inr (.inr (.inr (.inr (.inl (of_toList h8)))))))))))
  by_cases h9 : (K.toList == [102, 108, 111, 97, 116, 51, 50]) = true
  · exact .inr (.inr (.inr (.inr (.inr (.inr (.inr (.inr (.inr (.inr (.inr (.inl (of_toList h9))))))))))))
  by_cases h10 : (K.toList == [102, 108, 111, 97, 116, 54, 52]) = true
  · exact .inr (.inr (.inr (.inr (.inr (.inr (.inr (.inr (.inr (.inr (.inr (.inr (.inl (of_toList h10)))))))))))))
  by_cases h11 : (K.toList == [115, 116, 114, 105, 110, 103]) = true
  · exact .inr (.inr (.inr (.inr (.inr (.inr (.inr (.inr (.inr (.inr (.inr (.inr (.inr (.inl (of_toList h11))))))))))))))
  by_cases h12 : (K.toList == [98, 108, 111, 98]) = true
  · exact .inr (.inr (.inr (.inr (.inr (.inr (.inr (.inr (.inr (.inr (.inr (.inr (.inr (.inr (.inl (of_toList h12)))))))))))))))
  by_cases h13 : (K.toList == [105, 100, 101, 97, 108, 73, 110, 116]) = true
  · exact .inr (.inr (.inr (.inr (.inr (.inr (.inr (.inr (.inr (.inr (.inr (.inr (.inr (.inr (.inr (.inl (of_toList h13))))))))))))))))
  by_cases h14 : (K.toList == [105, 100, 101, 97, 108, 82, 117, 110, 101]) = true
  · exact .inr (.inr (.inr (.inr (.inr (.inr (.inr (.inr (.inr (.inr (.inr (.inr (.inr (.inr (.inr (.inr (.inl (of_toList h14)))))))))))))))))
  by_cases h15 : (K.toList == [105, 100, 101, 97, 108, 85, 105, 110, 116]) = true
  · exact .inr (.inr (.inr (.inr (.inr (.inr (.inr (.inr (.inr (.inr (.inr (.inr (.inr (.inr (.inr (.inr (.inr (.inl (of_toList h15))))))))))))))))))
  by_cases h16 : (K.toList == [105, 100, 101, 97, 108, 70, 108, 111, 97, 116]) = true
  · exact .inr (.inr (.inr (.inr (.inr (.inr (.inr (.inr (.inr (.inr (.inr (.inr (.inr (.inr (.inr (.inr (.inr (.inr (of_toList h16))))))))))))))))))
  exact .inl ⟨eq_false_of_ne_true kn, eq_false_of_ne_true h0, eq_false_of_ne_true h1, eq_false_of_ne_true h2, eq_false_of_ne_true h3, eq_false_of_ne_true h4, eq_false_of_ne_true h5, eq_false_of_ne_true h6, eq_false_of_ne_true h7, eq_false_of_ne_true h8, eq_false_of_ne_true h9, eq_false_of_ne_true h10, eq_false_of_ne_true h11, eq_false_of_ne_true h12, eq_false_of_ne_true h13, eq_false_of_ne_true h14, eq_false_of_ne_true h15, eq_false_of_ne_true h16⟩
set_option maxRecDepth 100000 in
set_option maxHeartbeats 4000000 in
theorem fits_any (K : ByteArray) (n u : Int) (f : Nat) (s : ByteArray) : GivesSome 6 #[V K n u f s] (K.size ≤ 2147483647 ∧ s.size ≤ 2147483647) := by
  intro w
  go_enter Tryd.func6, Tryd.ntmps6
  go_wp2
  all_goals go_ret
  all_goals first
    | exact ⟨false, rfl, (fun h => by cases h), (Below.refl _ _).alloc (Nat.le_refl _) _⟩
    | exact ⟨true, rfl, (fun _ => by constructor <;> omega), (Below.refl _ _).alloc (Nat.le_refl _) _⟩
set_option maxRecDepth 100000 in
set_option maxHeartbeats 4000000 in
theorem num_any (n : Int) : Gives 16 #[.int .i64 n] (V ⟨#[105, 110, 116, 54, 52]⟩ n 0 0 E0) := by
  intro w
  have b1 := @st_float
  go_enter Tryd.func16, Tryd.ntmps16
  go_wp2
  exact bodyPost_ret (v := V ⟨#[105, 110, 116, 54, 52]⟩ n 0 0 E0) (by simp [results, Tryd.results16, go_sem]) rfl ⟨rfl, (Below.refl _ _).alloc (Nat.le_refl _) _⟩
/-- impl.Convert out of in, the type's number, ql.convert and out -/
theorem cvt (k : ByteArray) (n u : Int) (f : Nat) (s t : ByteArray) (v v' : Value) (code : Int) (k' : ByteArray) (n' u' : Int) (f' : Nat) (s' : ByteArray) (hcode : (code == 0) = false)
    (H1 : Gives 18 #[V k n u f s] v) (H2 : Still 19 #[.string t] (.int .i64 code)) (H3 : Gives 31 #[v, .int .i64 code] (.tuple #[v', .nilIface]))
    (H4 : Gives 30 #[v'] (V k' n' u' f' s')) : Gives 11 #[V k n u f s, .string t] (.tuple #[V k' n' u' f' s', .int .i64 0]) :=
  convert_ok k n u f s t v code k' n' u' f' s' H1 H2 (iconv_ok v v' code hcode k' n' u' f' s' (zzconvert_ok v v' code H3) (told_ok v' k' n' u' f' s' H4))
theorem cvt_300 : Gives 11 #[V ⟨#[105, 110, 116, 54, 52]⟩ 300 0 0 E0, .string ⟨#[105, 110, 116, 56]⟩] (.tuple #[V ⟨#[105, 110, 116, 56]⟩ 44 0 0 E0, .int .i64 0]) :=
  cvt _ _ _ _ _ _ _ _ 105 _ _ _ _ _ rfl (in_int64 300 0 0 E0) ztype_int8 (Still.gives (cv_int64_int8 300)) (out_int8 44 (by decide) (by decide))
set_option maxRecDepth 100000 in
set_option maxHeartbeats 4000000 in
theorem converts_ok : Gives 9 #[] (.bool true) := by
  intro w
  have b1 := @st_float
  go_enter Tryd.func9, Tryd.ntmps9
  go_wp2_with (first | (go_at_call 16; refine (num_any _ _).mono ?_; rintro e w1 ⟨rfl, hb1⟩) | (go_at_call 11; refine (cvt_300 _).mono ?_; rintro e w2 ⟨rfl, hb2⟩))
  all_goals go_ret
  exact ⟨rfl, ((((((((bl_trans hb1 hb2).alloc (bl_trans hb1 hb2).size _)))))))⟩
end Go.Proofs.YtliopnbkpdfngaaDoor
