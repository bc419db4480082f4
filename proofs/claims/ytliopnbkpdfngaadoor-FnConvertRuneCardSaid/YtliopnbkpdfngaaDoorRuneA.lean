/-
  laws.FnConvertRune is true at every value. No condition but that the words are of their kinds.
-/
import Derived.Test.YtliopnbkpdfngaaDoorRuneU
import Derived.Test.YtliopnbkpdfngaaDoorConvT
import Derived.Test.YtliopnbkpdfngaaDoorConvS
import Derived.Test.YtliopnbkpdfngaaDoorConvU
set_option linter.unusedVariables false
set_option linter.unusedSimpArgs false
namespace Go.Proofs.YtliopnbkpdfngaaDoor
open Go.RowKit
theorem enc_bad (n : Int) (h : Utf8.valid n = false) : Utf8.encode n = Utf8.encode 65533 := by
  have h1 : Utf8.valid 65533 = true := by decide
  have h2 : (65533 : Int).toNat = 65533 := by decide
  unfold Utf8.encode
  rw [h, h1, h2]
  rfl
/-- which character a number is, and that laws.utf gives its bytes -/
theorem char_of (n : Int) : ∃ c, Gives 12 #[.int .i64 c] (.string (Utf8.encode n)) ∧
    ((n < 0 ∧ c = 65533) ∨ (1114111 < n ∧ c = 65533) ∨ (55296 ≤ n ∧ n ≤ 57343 ∧ c = 65533) ∨ (0 ≤ n ∧ n < 55296 ∧ c = n) ∨ (57343 < n ∧ n ≤ 1114111 ∧ c = n)) := by
  have hb := utf_any 65533 (by decide) (by decide) (by decide)
  by_cases h1 : n < 0
  · exact ⟨65533, by rw [enc_bad n (by simp [Utf8.valid]; omega)]; exact hb, .inl ⟨h1, rfl⟩⟩
  · by_cases h2 : 1114111 < n
    · exact ⟨65533, by rw [enc_bad n (by simp [Utf8.valid]; omega)]; exact hb, .inr (.inl ⟨h2, rfl⟩)⟩
    · by_cases h3 : n < 55296
      · exact ⟨n, utf_any n (by omega) (by omega) (by simp [Utf8.valid]; omega), .inr (.inr (.inr (.inl ⟨by omega, h3, rfl⟩)))⟩
      · by_cases h4 : n ≤ 57343
        · exact ⟨65533, by rw [enc_bad n (by simp [Utf8.valid]; omega)]; exact hb, .inr (.inr (.inl ⟨by omega, h4, rfl⟩))⟩
        · exact ⟨n, utf_any n (by omega) (by omega) (by simp [Utf8.valid]; omega), .inr (.inr (.inr (.inr ⟨by omega, by omega, rfl⟩)))⟩
theorem w32_id (n : Int) (h1 : -2147483648 ≤ n) (h2 : n < 2147483648) : wrap32 n = n := by unfold wrap32; omega
theorem rune_out (s : ByteArray) (v : Value) (k : ByteArray) (n u : Int) (f : Nat) (t : ByteArray) (H1 : Gives 18 #[V k n u f t] v) (H3 : Gives 31 #[v, .int .i64 115] (.tuple #[.iface 9 (.string s), .nilIface])) :
    Gives 11 #[V k n u f t, .string KStr] (.tuple #[V KStr 0 0 0 s, .int .i64 0]) :=
  cvt _ _ _ _ _ _ v _ 115 _ _ _ _ _ rfl H1 ztype_string H3 (out_string s)
theorem rune_at_bool (n u : Int) (f : Nat) (s : ByteArray) : Gives 4 #[V ⟨#[98, 111, 111, 108]⟩ n u f s] (.bool true) :=
  rune_early ⟨#[98, 111, 111, 108]⟩ n u f s 0 false _ (width_bool) (concrete_bool n u f s) (.inl rfl)
theorem rune_at_int8 (n u : Int) (f : Nat) (s : ByteArray) (hn0 : -9223372036854775808 ≤ n) (hn1 : n < 9223372036854775808) : Gives 4 #[V ⟨#[105, 110, 116, 56]⟩ n u f s] (.bool true) := by
  by_cases hp : (u = 0 ∧ bitsF f = 0 ∧ s = E0 ∧ n / 128 = n / 9223372036854775808) ∧ (-2147483648 ≤ n ∧ n < 2147483648)
  · obtain ⟨hp, g1, g2⟩ := hp
    obtain ⟨c, hu, hc⟩ := char_of n
    have h6 := hp
    obtain ⟨rfl, -, rfl, hr⟩ := hp
    · have e : IntKind.i8.wrap n = n := by
        simp [IntKind.wrap, IntKind.bits, IntKind.signed]
        split <;> omega
      have h5 := rune_out (Utf8.encode (wrap32 (IntKind.i8.wrap n))) _ ⟨#[105, 110, 116, 56]⟩ n 0 f E0 (in_int8 n 0 f E0) (Still.gives (cv_int8_string (IntKind.i8.wrap n)))
      rw [e, w32_id n g1 g2] at h5
      exact rune_s ⟨#[105, 110, 116, 56]⟩ n g1 g2 f E0 8 true _ (Utf8.encode n) c width_int8 (concrete_int8 n 0 f E0) rfl h5 hu hc
  · refine rune_early ⟨#[105, 110, 116, 56]⟩ n u f s 8 true _ width_int8 (concrete_int8 n u f s) (.inr fun h => ?_)
    by_cases g1 : n < -2147483648
    · exact .inl g1
    · by_cases g2 : 2147483648 ≤ n
      · exact .inr (.inl g2)
      · exact absurd ⟨h.1, by omega, by omega⟩ hp
theorem rune_at_int16 (n u : Int) (f : Nat) (s : ByteArray) (hn0 : -9223372036854775808 ≤ n) (hn1 : n < 9223372036854775808) : Gives 4 #[V ⟨#[105, 110, 116, 49, 54]⟩ n u f s] (.bool true) := by
  by_cases hp : (u = 0 ∧ bitsF f = 0 ∧ s = E0 ∧ n / 32768 = n / 9223372036854775808) ∧ (-2147483648 ≤ n ∧ n < 2147483648)
  · obtain ⟨hp, g1, g2⟩ := hp
    obtain ⟨c, hu, hc⟩ := char_of n
    have h6 := hp
    obtain ⟨rfl, -, rfl, hr⟩ := hp
    · have e : IntKind.i16.wrap n = n := by
        simp [IntKind.wrap, IntKind.bits, IntKind.signed]
        split <;> omega
      have h5 := rune_out (Utf8.encode (wrap32 (IntKind.i16.wrap n))) _ ⟨#[105, 110, 116, 49, 54]⟩ n 0 f E0 (in_int16 n 0 f E0) (Still.gives (cv_int16_string (IntKind.i16.wrap n)))
      rw [e, w32_id n g1 g2] at h5
      exact rune_s ⟨#[105, 110, 116, 49, 54]⟩ n g1 g2 f E0 16 true _ (Utf8.encode n) c width_int16 (concrete_int16 n 0 f E0) rfl h5 hu hc
  · refine rune_early ⟨#[105, 110, 116, 49, 54]⟩ n u f s 16 true _ width_int16 (concrete_int16 n u f s) (.inr fun h => ?_)
    by_cases g1 : n < -2147483648
    · exact .inl g1
    · by_cases g2 : 2147483648 ≤ n
      · exact .inr (.inl g2)
      · exact absurd ⟨h.1, by omega, by omega⟩ hp
theorem rune_at_int32 (n u : Int) (f : Nat) (s : ByteArray) (hn0 : -9223372036854775808 ≤ n) (hn1 : n < 9223372036854775808) : Gives 4 #[V ⟨#[105, 110, 116, 51, 50]⟩ n u f s] (.bool true) := by
  by_cases hp : (u = 0 ∧ bitsF f = 0 ∧ s = E0 ∧ n / 2147483648 = n / 9223372036854775808) ∧ (-2147483648 ≤ n ∧ n < 2147483648)
  · obtain ⟨hp, g1, g2⟩ := hp
    obtain ⟨c, hu, hc⟩ := char_of n
    have h6 := hp
    obtain ⟨rfl, -, rfl, hr⟩ := hp
    · have h5 := rune_out (Utf8.encode (wrap32 n)) _ ⟨#[105, 110, 116, 51, 50]⟩ n 0 f E0 (in_int32 n 0 f E0) (Still.gives (cv_int32_string (wrap32 n)))
      rw [w32_id n g1 g2] at h5
      exact rune_s ⟨#[105, 110, 116, 51, 50]⟩ n g1 g2 f E0 32 true _ (Utf8.encode n) c width_int32 (concrete_int32 n 0 f E0) rfl h5 hu hc
  · refine rune_early ⟨#[105, 110, 116, 51, 50]⟩ n u f s 32 true _ width_int32 (concrete_int32 n u f s) (.inr fun h => ?_)
    by_cases g1 : n < -2147483648
    · exact .inl g1
    · by_cases g2 : 2147483648 ≤ n
      · exact .inr (.inl g2)
      · exact absurd ⟨h.1, by omega, by omega⟩ hp
theorem rune_at_int64 (n u : Int) (f : Nat) (s : ByteArray) (hn0 : -9223372036854775808 ≤ n) (hn1 : n < 9223372036854775808) : Gives 4 #[V ⟨#[105, 110, 116, 54, 52]⟩ n u f s] (.bool true) := by
  by_cases hp : (u = 0 ∧ bitsF f = 0 ∧ s = E0) ∧ (-2147483648 ≤ n ∧ n < 2147483648)
  · obtain ⟨hp, g1, g2⟩ := hp
    obtain ⟨c, hu, hc⟩ := char_of n
    have h6 := hp
    obtain ⟨rfl, -, rfl⟩ := hp
    · have h5 := rune_out (Utf8.encode (wrap32 n)) _ ⟨#[105, 110, 116, 54, 52]⟩ n 0 f E0 (in_int64 n 0 f E0) (Still.gives (cv_int64_string n))
      rw [w32_id n g1 g2] at h5
      exact rune_s ⟨#[105, 110, 116, 54, 52]⟩ n g1 g2 f E0 64 true _ (Utf8.encode n) c width_int64 (concrete_int64 n 0 f E0) rfl h5 hu hc
  · refine rune_early ⟨#[105, 110, 116, 54, 52]⟩ n u f s 64 true _ width_int64 (concrete_int64 n u f s) (.inr fun h => ?_)
    by_cases g1 : n < -2147483648
    · exact .inl g1
    · by_cases g2 : 2147483648 ≤ n
      · exact .inr (.inl g2)
      · exact absurd ⟨h.1, by omega, by omega⟩ hp
theorem rune_at_uint8 (n u : Int) (f : Nat) (s : ByteArray) (hu0 : 0 ≤ u) (hu1 : u < 18446744073709551616) : Gives 4 #[V ⟨#[117, 105, 110, 116, 56]⟩ n u f s] (.bool true) := by
  by_cases hp : (n = 0 ∧ bitsF f = 0 ∧ s = E0 ∧ u / 256 = 0) ∧ u < 2147483648
  · obtain ⟨hp, g2⟩ := hp
    obtain ⟨c, hu, hc⟩ := char_of u
    obtain ⟨rfl, -, rfl, hr⟩ := hp
    · have e : IntKind.u8.wrap u = u := by
        simp only [IntKind.wrap, IntKind.bits, IntKind.signed]
        simp
        omega
      have h5 := rune_out (Utf8.encode (wrap32 (IntKind.u8.wrap u))) _ ⟨#[117, 105, 110, 116, 56]⟩ 0 u f E0 (in_uint8 0 u f E0) (Still.gives (cv_uint8_string (IntKind.u8.wrap u)))
      rw [e, w32_id u (by omega) g2] at h5
      by_cases g1 : u = 0
      · subst g1
        exact rune_s ⟨#[117, 105, 110, 116, 56]⟩ 0 (by decide) (by decide) f E0 8 false _ (Utf8.encode 0) c width_uint8 (concrete_uint8 0 0 f E0) rfl h5 hu hc
      · exact rune_u ⟨#[117, 105, 110, 116, 56]⟩ u (by omega) g2 f E0 8 false _ (Utf8.encode u) c width_uint8 (concrete_uint8 0 u f E0) rfl h5 hu (hc.resolve_left (fun h => by omega))
  · refine rune_early ⟨#[117, 105, 110, 116, 56]⟩ n u f s 8 false _ width_uint8 (concrete_uint8 n u f s) (.inr fun h => ?_)
    by_cases g2 : 2147483648 ≤ u
    · exact .inr (.inr g2)
    · exact absurd ⟨h.1, by omega⟩ hp
theorem rune_at_uint16 (n u : Int) (f : Nat) (s : ByteArray) (hu0 : 0 ≤ u) (hu1 : u < 18446744073709551616) : Gives 4 #[V ⟨#[117, 105, 110, 116, 49, 54]⟩ n u f s] (.bool true) := by
  by_cases hp : (n = 0 ∧ bitsF f = 0 ∧ s = E0 ∧ u / 65536 = 0) ∧ u < 2147483648
  · obtain ⟨hp, g2⟩ := hp
    obtain ⟨c, hu, hc⟩ := char_of u
    obtain ⟨rfl, -, rfl, hr⟩ := hp
    · have e : IntKind.u16.wrap u = u := by
        simp only [IntKind.wrap, IntKind.bits, IntKind.signed]
        simp
        omega
      have h5 := rune_out (Utf8.encode (wrap32 (IntKind.u16.wrap u))) _ ⟨#[117, 105, 110, 116, 49, 54]⟩ 0 u f E0 (in_uint16 0 u f E0) (Still.gives (cv_uint16_string (IntKind.u16.wrap u)))
      rw [e, w32_id u (by omega) g2] at h5
      by_cases g1 : u = 0
      · subst g1
        exact rune_s ⟨#[117, 105, 110, 116, 49, 54]⟩ 0 (by decide) (by decide) f E0 16 false _ (Utf8.encode 0) c width_uint16 (concrete_uint16 0 0 f E0) rfl h5 hu hc
      · exact rune_u ⟨#[117, 105, 110, 116, 49, 54]⟩ u (by omega) g2 f E0 16 false _ (Utf8.encode u) c width_uint16 (concrete_uint16 0 u f E0) rfl h5 hu (hc.resolve_left (fun h => by omega))
  · refine rune_early ⟨#[117, 105, 110, 116, 49, 54]⟩ n u f s 16 false _ width_uint16 (concrete_uint16 n u f s) (.inr fun h => ?_)
    by_cases g2 : 2147483648 ≤ u
    · exact .inr (.inr g2)
    · exact absurd ⟨h.1, by omega⟩ hp
theorem rune_at_uint32 (n u : Int) (f : Nat) (s : ByteArray) (hu0 : 0 ≤ u) (hu1 : u < 18446744073709551616) : Gives 4 #[V ⟨#[117, 105, 110, 116, 51, 50]⟩ n u f s] (.bool true) := by
  by_cases hp : (n = 0 ∧ bitsF f = 0 ∧ s = E0 ∧ u / 4294967296 = 0) ∧ u < 2147483648
  · obtain ⟨hp, g2⟩ := hp
    obtain ⟨c, hu, hc⟩ := char_of u
    obtain ⟨rfl, -, rfl, hr⟩ := hp
    · have e : IntKind.u32.wrap u = u := by
        simp only [IntKind.wrap, IntKind.bits, IntKind.signed]
        simp
        omega
      have h5 := rune_out (Utf8.encode (wrap32 (IntKind.u32.wrap u))) _ ⟨#[117, 105, 110, 116, 51, 50]⟩ 0 u f E0 (in_uint32 0 u f E0) (Still.gives (cv_uint32_string (IntKind.u32.wrap u)))
      rw [e, w32_id u (by omega) g2] at h5
      by_cases g1 : u = 0
      · subst g1
        exact rune_s ⟨#[117, 105, 110, 116, 51, 50]⟩ 0 (by decide) (by decide) f E0 32 false _ (Utf8.encode 0) c width_uint32 (concrete_uint32 0 0 f E0) rfl h5 hu hc
      · exact rune_u ⟨#[117, 105, 110, 116, 51, 50]⟩ u (by omega) g2 f E0 32 false _ (Utf8.encode u) c width_uint32 (concrete_uint32 0 u f E0) rfl h5 hu (hc.resolve_left (fun h => by omega))
  · refine rune_early ⟨#[117, 105, 110, 116, 51, 50]⟩ n u f s 32 false _ width_uint32 (concrete_uint32 n u f s) (.inr fun h => ?_)
    by_cases g2 : 2147483648 ≤ u
    · exact .inr (.inr g2)
    · exact absurd ⟨h.1, by omega⟩ hp
theorem rune_at_uint64 (n u : Int) (f : Nat) (s : ByteArray) (hu0 : 0 ≤ u) (hu1 : u < 18446744073709551616) : Gives 4 #[V ⟨#[117, 105, 110, 116, 54, 52]⟩ n u f s] (.bool true) := by
  by_cases hp : (n = 0 ∧ bitsF f = 0 ∧ s = E0) ∧ u < 2147483648
  · obtain ⟨hp, g2⟩ := hp
    obtain ⟨c, hu, hc⟩ := char_of u
    obtain ⟨rfl, -, rfl⟩ := hp
    · have h5 := rune_out (Utf8.encode (wrap32 u)) _ ⟨#[117, 105, 110, 116, 54, 52]⟩ 0 u f E0 (in_uint64 0 u f E0) (Still.gives (cv_uint64_string u))
      rw [w32_id u (by omega) g2] at h5
      by_cases g1 : u = 0
      · subst g1
        exact rune_s ⟨#[117, 105, 110, 116, 54, 52]⟩ 0 (by decide) (by decide) f E0 64 false _ (Utf8.encode 0) c width_uint64 (concrete_uint64 0 0 f E0) rfl h5 hu hc
      · exact rune_u ⟨#[117, 105, 110, 116, 54, 52]⟩ u (by omega) g2 f E0 64 false _ (Utf8.encode u) c width_uint64 (concrete_uint64 0 u f E0) rfl h5 hu (hc.resolve_left (fun h => by omega))
  · refine rune_early ⟨#[117, 105, 110, 116, 54, 52]⟩ n u f s 64 false _ width_uint64 (concrete_uint64 n u f s) (.inr fun h => ?_)
    by_cases g2 : 2147483648 ≤ u
    · exact .inr (.inr g2)
    · exact absurd ⟨h.1, by omega⟩ hp
theorem rune_at_float32 (n u : Int) (f : Nat) (s : ByteArray) : Gives 4 #[V ⟨#[102, 108, 111, 97, 116, 51, 50]⟩ n u f s] (.bool true) :=
  rune_early ⟨#[102, 108, 111, 97, 116, 51, 50]⟩ n u f s 0 false _ (width_float32) (concrete_float32 n u f s) (.inl rfl)
theorem rune_at_float64 (n u : Int) (f : Nat) (s : ByteArray) : Gives 4 #[V ⟨#[102, 108, 111, 97, 116, 54, 52]⟩ n u f s] (.bool true) :=
  rune_early ⟨#[102, 108, 111, 97, 116, 54, 52]⟩ n u f s 0 false _ (width_float64) (concrete_float64 n u f s) (.inl rfl)
theorem rune_at_string (n u : Int) (f : Nat) (s : ByteArray) : Gives 4 #[V ⟨#[115, 116, 114, 105, 110, 103]⟩ n u f s] (.bool true) :=
  rune_early ⟨#[115, 116, 114, 105, 110, 103]⟩ n u f s 0 false _ (width_string) (concrete_string n u f s) (.inl rfl)
theorem rune_at_blob (n u : Int) (f : Nat) (s : ByteArray) : Gives 4 #[V ⟨#[98, 108, 111, 98]⟩ n u f s] (.bool true) :=
  rune_early ⟨#[98, 108, 111, 98]⟩ n u f s 0 false _ (width_blob) (concrete_blob n u f s) (.inl rfl)
theorem rune_at_idealInt (n u : Int) (f : Nat) (s : ByteArray) : Gives 4 #[V ⟨#[105, 100, 101, 97, 108, 73, 110, 116]⟩ n u f s] (.bool true) :=
  rune_early ⟨#[105, 100, 101, 97, 108, 73, 110, 116]⟩ n u f s 64 true _ (width_idealInt) (concrete_idealInt n u f s) (.inr fun h => h.elim)
theorem rune_at_idealRune (n u : Int) (f : Nat) (s : ByteArray) : Gives 4 #[V ⟨#[105, 100, 101, 97, 108, 82, 117, 110, 101]⟩ n u f s] (.bool true) :=
  rune_early ⟨#[105, 100, 101, 97, 108, 82, 117, 110, 101]⟩ n u f s 32 true _ (width_idealRune) (concrete_idealRune n u f s) (.inr fun h => h.elim)
theorem rune_at_idealUint (n u : Int) (f : Nat) (s : ByteArray) : Gives 4 #[V ⟨#[105, 100, 101, 97, 108, 85, 105, 110, 116]⟩ n u f s] (.bool true) :=
  rune_early ⟨#[105, 100, 101, 97, 108, 85, 105, 110, 116]⟩ n u f s 64 false _ (width_idealUint) (concrete_idealUint n u f s) (.inr fun h => h.elim)
theorem rune_at_idealFloat (n u : Int) (f : Nat) (s : ByteArray) : Gives 4 #[V ⟨#[105, 100, 101, 97, 108, 70, 108, 111, 97, 116]⟩ n u f s] (.bool true) :=
  rune_early ⟨#[105, 100, 101, 97, 108, 70, 108, 111, 97, 116]⟩ n u f s 0 false _ (width_idealFloat) (concrete_idealFloat n u f s) (.inl rfl)
theorem rune_at_null (n u : Int) (f : Nat) (s : ByteArray) : Gives 4 #[V ⟨#[]⟩ n u f s] (.bool true) :=
  rune_early ⟨#[]⟩ n u f s 0 false _ (width_null) (concrete_null n u f s) (.inl rfl)
theorem rune_all (K : ByteArray) (n u : Int) (f : Nat) (s : ByteArray) (hn0 : -9223372036854775808 ≤ n) (hn1 : n < 9223372036854775808) (hu0 : 0 ≤ u) (hu1 : u < 18446744073709551616) : Gives 4 #[V K n u f s] (.bool true) := by
  rcases kind_cases K with h | h | h | h | h | h | h | h | h | h | h | h | h | h | h | h | h | h | h
  · exact rune_early K n u f s 0 false _ (width_un h) (concrete_un h n u f s) (.inl rfl)
  · subst h; exact rune_at_null n u f s
  · subst h; exact rune_at_bool n u f s
  · subst h; exact rune_at_int8 n u f s hn0 hn1
  · subst h; exact rune_at_int16 n u f s hn0 hn1
  · subst h; exact rune_at_int32 n u f s hn0 hn1
  · subst h; exact rune_at_int64 n u f s hn0 hn1
  · subst h; exact rune_at_uint8 n u f s hu0 hu1
  · subst h; exact rune_at_uint16 n u f s hu0 hu1
  · subst h; exact rune_at_uint32 n u f s hu0 hu1
  · subst h; exact rune_at_uint64 n u f s hu0 hu1
  · subst h; exact rune_at_float32 n u f s
  · subst h; exact rune_at_float64 n u f s
  · subst h; exact rune_at_string n u f s
  · subst h; exact rune_at_blob n u f s
  · subst h; exact rune_at_idealInt n u f s
  · subst h; exact rune_at_idealRune n u f s
  · subst h; exact rune_at_idealUint n u f s
  · subst h; exact rune_at_idealFloat n u f s
end Go.Proofs.YtliopnbkpdfngaaDoor
