/-
  laws.FnConvertThere is true at every value. No condition but that the words are of their kinds.
-/
import Derived.Test.YtliopnbkpdfngaaDoorThrF
import Derived.Test.YtliopnbkpdfngaaDoorConvS
import Derived.Test.YtliopnbkpdfngaaDoorConvU
set_option linter.unusedVariables false
set_option linter.unusedSimpArgs false
namespace Go.Proofs.YtliopnbkpdfngaaDoor
open Go.RowKit
theorem wr_i8 (n : Int) (h1 : -128 ≤ n) (h2 : n ≤ 127) : IntKind.i8.wrap n = n := by
  simp [IntKind.wrap, IntKind.bits, IntKind.signed]
  split <;> omega
theorem wr_i16 (n : Int) (h1 : -32768 ≤ n) (h2 : n ≤ 32767) : IntKind.i16.wrap n = n := by
  simp [IntKind.wrap, IntKind.bits, IntKind.signed]
  split <;> omega
theorem wr_i32 (n : Int) (h1 : -2147483648 ≤ n) (h2 : n ≤ 2147483647) : wrap32 n = n := by unfold wrap32; omega
theorem wr_i64 (n : Int) (h1 : -9223372036854775808 ≤ n) (h2 : n ≤ 9223372036854775807) : wrap64 n = n := by unfold wrap64; omega
theorem wr_u8 (n : Int) (h1 : 0 ≤ n) (h2 : n ≤ 255) : IntKind.u8.wrap n = n := by
  simp only [IntKind.wrap, IntKind.bits, IntKind.signed]
  simp
  omega
theorem wr_u16 (n : Int) (h1 : 0 ≤ n) (h2 : n ≤ 65535) : IntKind.u16.wrap n = n := by
  simp only [IntKind.wrap, IntKind.bits, IntKind.signed]
  simp
  omega
theorem wr_u32 (n : Int) (h1 : 0 ≤ n) (h2 : n ≤ 4294967295) : IntKind.u32.wrap n = n := by
  simp only [IntKind.wrap, IntKind.bits, IntKind.signed]
  simp
  omega
theorem wr_u64 (n : Int) (h1 : 0 ≤ n) (h2 : n ≤ 18446744073709551615) : IntKind.u64.wrap n = n := by
  simp only [IntKind.wrap, IntKind.bits, IntKind.signed]
  simp
  omega
theorem ci_int8_int8 (n : Int) (f : Nat) (h1 : -128 ≤ n) (h2 : n ≤ 127) (h3 : -128 ≤ n) (h4 : n ≤ 127) : Gives 11 #[V ⟨#[105, 110, 116, 56]⟩ n 0 f E0, .string ⟨#[105, 110, 116, 56]⟩] (.tuple #[V ⟨#[105, 110, 116, 56]⟩ n 0 0 E0, .int .i64 0]) := by
  have g1 := in_int8 n 0 f E0
  rw [wr_i8 n h1 h2] at g1
  have g3 := cv_int8_int8 n
  exact cvt _ _ _ _ _ _ _ _ 105 _ _ _ _ _ rfl g1 ztype_int8 (Still.gives g3) (out_int8 n h3 h4)
theorem ci_int8_int16 (n : Int) (f : Nat) (h1 : -128 ≤ n) (h2 : n ≤ 127) (h3 : -32768 ≤ n) (h4 : n ≤ 32767) : Gives 11 #[V ⟨#[105, 110, 116, 56]⟩ n 0 f E0, .string ⟨#[105, 110, 116, 49, 54]⟩] (.tuple #[V ⟨#[105, 110, 116, 49, 54]⟩ n 0 0 E0, .int .i64 0]) := by
  have g1 := in_int8 n 0 f E0
  rw [wr_i8 n h1 h2] at g1
  have g3 := cv_int8_int16 n
  rw [wr_i16 n h3 h4] at g3
  exact cvt _ _ _ _ _ _ _ _ 106 _ _ _ _ _ rfl g1 ztype_int16 (Still.gives g3) (out_int16 n h3 h4)
theorem ci_int8_int32 (n : Int) (f : Nat) (h1 : -128 ≤ n) (h2 : n ≤ 127) (h3 : -2147483648 ≤ n) (h4 : n ≤ 2147483647) : Gives 11 #[V ⟨#[105, 110, 116, 56]⟩ n 0 f E0, .string ⟨#[105, 110, 116, 51, 50]⟩] (.tuple #[V ⟨#[105, 110, 116, 51, 50]⟩ n 0 0 E0, .int .i64 0]) := by
  have g1 := in_int8 n 0 f E0
  rw [wr_i8 n h1 h2] at g1
  have g3 := cv_int8_int32 n
  rw [wr_i32 n h3 h4] at g3
  exact cvt _ _ _ _ _ _ _ _ 107 _ _ _ _ _ rfl g1 ztype_int32 (Still.gives g3) (out_int32 n h3 h4)
theorem ci_int8_int64 (n : Int) (f : Nat) (h1 : -128 ≤ n) (h2 : n ≤ 127) (h3 : -9223372036854775808 ≤ n) (h4 : n ≤ 9223372036854775807) : Gives 11 #[V ⟨#[105, 110, 116, 56]⟩ n 0 f E0, .string ⟨#[105, 110, 116, 54, 52]⟩] (.tuple #[V ⟨#[105, 110, 116, 54, 52]⟩ n 0 0 E0, .int .i64 0]) := by
  have g1 := in_int8 n 0 f E0
  rw [wr_i8 n h1 h2] at g1
  have g3 := cv_int8_int64 n
  rw [wr_i64 n h3 h4] at g3
  exact cvt _ _ _ _ _ _ _ _ 108 _ _ _ _ _ rfl g1 ztype_int64 (Still.gives g3) (out_int64 n)
theorem ci_int16_int8 (n : Int) (f : Nat) (h1 : -32768 ≤ n) (h2 : n ≤ 32767) (h3 : -128 ≤ n) (h4 : n ≤ 127) : Gives 11 #[V ⟨#[105, 110, 116, 49, 54]⟩ n 0 f E0, .string ⟨#[105, 110, 116, 56]⟩] (.tuple #[V ⟨#[105, 110, 116, 56]⟩ n 0 0 E0, .int .i64 0]) := by
  have g1 := in_int16 n 0 f E0
  rw [wr_i16 n h1 h2] at g1
  have g3 := cv_int16_int8 n
  rw [wr_i8 n h3 h4] at g3
  exact cvt _ _ _ _ _ _ _ _ 105 _ _ _ _ _ rfl g1 ztype_int8 (Still.gives g3) (out_int8 n h3 h4)
theorem ci_int16_int16 (n : Int) (f : Nat) (h1 : -32768 ≤ n) (h2 : n ≤ 32767) (h3 : -32768 ≤ n) (h4 : n ≤ 32767) : Gives 11 #[V ⟨#[105, 110, 116, 49, 54]⟩ n 0 f E0, .string ⟨#[105, 110, 116, 49, 54]⟩] (.tuple #[V ⟨#[105, 110, 116, 49, 54]⟩ n 0 0 E0, .int .i64 0]) := by
  have g1 := in_int16 n 0 f E0
  rw [wr_i16 n h1 h2] at g1
  have g3 := cv_int16_int16 n
  exact cvt _ _ _ _ _ _ _ _ 106 _ _ _ _ _ rfl g1 ztype_int16 (Still.gives g3) (out_int16 n h3 h4)
theorem ci_int16_int32 (n : Int) (f : Nat) (h1 : -32768 ≤ n) (h2 : n ≤ 32767) (h3 : -2147483648 ≤ n) (h4 : n ≤ 2147483647) : Gives 11 #[V ⟨#[105, 110, 116, 49, 54]⟩ n 0 f E0, .string ⟨#[105, 110, 116, 51, 50]⟩] (.tuple #[V ⟨#[105, 110, 116, 51, 50]⟩ n 0 0 E0, .int .i64 0]) := by
  have g1 := in_int16 n 0 f E0
  rw [wr_i16 n h1 h2] at g1
  have g3 := cv_int16_int32 n
  rw [wr_i32 n h3 h4] at g3
  exact cvt _ _ _ _ _ _ _ _ 107 _ _ _ _ _ rfl g1 ztype_int32 (Still.gives g3) (out_int32 n h3 h4)
theorem ci_int16_int64 (n : Int) (f : Nat) (h1 : -32768 ≤ n) (h2 : n ≤ 32767) (h3 : -9223372036854775808 ≤ n) (h4 : n ≤ 9223372036854775807) : Gives 11 #[V ⟨#[105, 110, 116, 49, 54]⟩ n 0 f E0, .string ⟨#[105, 110, 116, 54, 52]⟩] (.tuple #[V ⟨#[105, 110, 116, 54, 52]⟩ n 0 0 E0, .int .i64 0]) := by
  have g1 := in_int16 n 0 f E0
  rw [wr_i16 n h1 h2] at g1
  have g3 := cv_int16_int64 n
  rw [wr_i64 n h3 h4] at g3
  exact cvt _ _ _ _ _ _ _ _ 108 _ _ _ _ _ rfl g1 ztype_int64 (Still.gives g3) (out_int64 n)
theorem ci_int32_int8 (n : Int) (f : Nat) (h1 : -2147483648 ≤ n) (h2 : n ≤ 2147483647) (h3 : -128 ≤ n) (h4 : n ≤ 127) : Gives 11 #[V ⟨#[105, 110, 116, 51, 50]⟩ n 0 f E0, .string ⟨#[105, 110, 116, 56]⟩] (.tuple #[V ⟨#[105, 110, 116, 56]⟩ n 0 0 E0, .int .i64 0]) := by
  have g1 := in_int32 n 0 f E0
  rw [wr_i32 n h1 h2] at g1
  have g3 := cv_int32_int8 n
  rw [wr_i8 n h3 h4] at g3
  exact cvt _ _ _ _ _ _ _ _ 105 _ _ _ _ _ rfl g1 ztype_int8 (Still.gives g3) (out_int8 n h3 h4)
theorem ci_int32_int16 (n : Int) (f : Nat) (h1 : -2147483648 ≤ n) (h2 : n ≤ 2147483647) (h3 : -32768 ≤ n) (h4 : n ≤ 32767) : Gives 11 #[V ⟨#[105, 110, 116, 51, 50]⟩ n 0 f E0, .string ⟨#[105, 110, 116, 49, 54]⟩] (.tuple #[V ⟨#[105, 110, 116, 49, 54]⟩ n 0 0 E0, .int .i64 0]) := by
  have g1 := in_int32 n 0 f E0
  rw [wr_i32 n h1 h2] at g1
  have g3 := cv_int32_int16 n
  rw [wr_i16 n h3 h4] at g3
  exact cvt _ _ _ _ _ _ _ _ 106 _ _ _ _ _ rfl g1 ztype_int16 (Still.gives g3) (out_int16 n h3 h4)
theorem ci_int32_int32 (n : Int) (f : Nat) (h1 : -2147483648 ≤ n) (h2 : n ≤ 2147483647) (h3 : -2147483648 ≤ n) (h4 : n ≤ 2147483647) : Gives 11 #[V ⟨#[105, 110, 116, 51, 50]⟩ n 0 f E0, .string ⟨#[105, 110, 116, 51, 50]⟩] (.tuple #[V ⟨#[105, 110, 116, 51, 50]⟩ n 0 0 E0, .int .i64 0]) := by
  have g1 := in_int32 n 0 f E0
  rw [wr_i32 n h1 h2] at g1
  have g3 := cv_int32_int32 n
  exact cvt _ _ _ _ _ _ _ _ 107 _ _ _ _ _ rfl g1 ztype_int32 (Still.gives g3) (out_int32 n h3 h4)
theorem ci_int32_int64 (n : Int) (f : Nat) (h1 : -2147483648 ≤ n) (h2 : n ≤ 2147483647) (h3 : -9223372036854775808 ≤ n) (h4 : n ≤ 9223372036854775807) : Gives 11 #[V ⟨#[105, 110, 116, 51, 50]⟩ n 0 f E0, .string ⟨#[105, 110, 116, 54, 52]⟩] (.tuple #[V ⟨#[105, 110, 116, 54, 52]⟩ n 0 0 E0, .int .i64 0]) := by
  have g1 := in_int32 n 0 f E0
  rw [wr_i32 n h1 h2] at g1
  have g3 := cv_int32_int64 n
  rw [wr_i64 n h3 h4] at g3
  exact cvt _ _ _ _ _ _ _ _ 108 _ _ _ _ _ rfl g1 ztype_int64 (Still.gives g3) (out_int64 n)
theorem ci_int64_int8 (n : Int) (f : Nat) (h1 : -9223372036854775808 ≤ n) (h2 : n ≤ 9223372036854775807) (h3 : -128 ≤ n) (h4 : n ≤ 127) : Gives 11 #[V ⟨#[105, 110, 116, 54, 52]⟩ n 0 f E0, .string ⟨#[105, 110, 116, 56]⟩] (.tuple #[V ⟨#[105, 110, 116, 56]⟩ n 0 0 E0, .int .i64 0]) := by
  have g1 := in_int64 n 0 f E0
  have g3 := cv_int64_int8 n
  rw [wr_i8 n h3 h4] at g3
  exact cvt _ _ _ _ _ _ _ _ 105 _ _ _ _ _ rfl g1 ztype_int8 (Still.gives g3) (out_int8 n h3 h4)
theorem ci_int64_int16 (n : Int) (f : Nat) (h1 : -9223372036854775808 ≤ n) (h2 : n ≤ 9223372036854775807) (h3 : -32768 ≤ n) (h4 : n ≤ 32767) : Gives 11 #[V ⟨#[105, 110, 116, 54, 52]⟩ n 0 f E0, .string ⟨#[105, 110, 116, 49, 54]⟩] (.tuple #[V ⟨#[105, 110, 116, 49, 54]⟩ n 0 0 E0, .int .i64 0]) := by
  have g1 := in_int64 n 0 f E0
  have g3 := cv_int64_int16 n
  rw [wr_i16 n h3 h4] at g3
  exact cvt _ _ _ _ _ _ _ _ 106 _ _ _ _ _ rfl g1 ztype_int16 (Still.gives g3) (out_int16 n h3 h4)
theorem ci_int64_int32 (n : Int) (f : Nat) (h1 : -9223372036854775808 ≤ n) (h2 : n ≤ 9223372036854775807) (h3 : -2147483648 ≤ n) (h4 : n ≤ 2147483647) : Gives 11 #[V ⟨#[105, 110, 116, 54, 52]⟩ n 0 f E0, .string ⟨#[105, 110, 116, 51, 50]⟩] (.tuple #[V ⟨#[105, 110, 116, 51, 50]⟩ n 0 0 E0, .int .i64 0]) := by
  have g1 := in_int64 n 0 f E0
  have g3 := cv_int64_int32 n
  rw [wr_i32 n h3 h4] at g3
  exact cvt _ _ _ _ _ _ _ _ 107 _ _ _ _ _ rfl g1 ztype_int32 (Still.gives g3) (out_int32 n h3 h4)
theorem ci_int64_int64 (n : Int) (f : Nat) (h1 : -9223372036854775808 ≤ n) (h2 : n ≤ 9223372036854775807) (h3 : -9223372036854775808 ≤ n) (h4 : n ≤ 9223372036854775807) : Gives 11 #[V ⟨#[105, 110, 116, 54, 52]⟩ n 0 f E0, .string ⟨#[105, 110, 116, 54, 52]⟩] (.tuple #[V ⟨#[105, 110, 116, 54, 52]⟩ n 0 0 E0, .int .i64 0]) := by
  have g1 := in_int64 n 0 f E0
  have g3 := cv_int64_int64 n
  exact cvt _ _ _ _ _ _ _ _ 108 _ _ _ _ _ rfl g1 ztype_int64 (Still.gives g3) (out_int64 n)
theorem ci_uint8_uint8 (n : Int) (f : Nat) (h1 : 0 ≤ n) (h2 : n ≤ 255) (h3 : 0 ≤ n) (h4 : n ≤ 255) : Gives 11 #[V ⟨#[117, 105, 110, 116, 56]⟩ 0 n f E0, .string ⟨#[117, 105, 110, 116, 56]⟩] (.tuple #[V ⟨#[117, 105, 110, 116, 56]⟩ 0 n 0 E0, .int .i64 0]) := by
  have g1 := in_uint8 0 n f E0
  rw [wr_u8 n h1 h2] at g1
  have g3 := cv_uint8_uint8 n
  exact cvt _ _ _ _ _ _ _ _ 117 _ _ _ _ _ rfl g1 ztype_uint8 (Still.gives g3) (out_uint8 n h3 h4)
theorem ci_uint8_uint16 (n : Int) (f : Nat) (h1 : 0 ≤ n) (h2 : n ≤ 255) (h3 : 0 ≤ n) (h4 : n ≤ 65535) : Gives 11 #[V ⟨#[117, 105, 110, 116, 56]⟩ 0 n f E0, .string ⟨#[117, 105, 110, 116, 49, 54]⟩] (.tuple #[V ⟨#[117, 105, 110, 116, 49, 54]⟩ 0 n 0 E0, .int .i64 0]) := by
  have g1 := in_uint8 0 n f E0
  rw [wr_u8 n h1 h2] at g1
  have g3 := cv_uint8_uint16 n
  rw [wr_u16 n h3 h4] at g3
  exact cvt _ _ _ _ _ _ _ _ 118 _ _ _ _ _ rfl g1 ztype_uint16 (Still.gives g3) (out_uint16 n h3 h4)
theorem ci_uint8_uint32 (n : Int) (f : Nat) (h1 : 0 ≤ n) (h2 : n ≤ 255) (h3 : 0 ≤ n) (h4 : n ≤ 4294967295) : Gives 11 #[V ⟨#[117, 105, 110, 116, 56]⟩ 0 n f E0, .string ⟨#[117, 105, 110, 116, 51, 50]⟩] (.tuple #[V ⟨#[117, 105, 110, 116, 51, 50]⟩ 0 n 0 E0, .int .i64 0]) := by
  have g1 := in_uint8 0 n f E0
  rw [wr_u8 n h1 h2] at g1
  have g3 := cv_uint8_uint32 n
  rw [wr_u32 n h3 h4] at g3
  exact cvt _ _ _ _ _ _ _ _ 119 _ _ _ _ _ rfl g1 ztype_uint32 (Still.gives g3) (out_uint32 n h3 h4)
theorem ci_uint8_uint64 (n : Int) (f : Nat) (h1 : 0 ≤ n) (h2 : n ≤ 255) (h3 : 0 ≤ n) (h4 : n ≤ 18446744073709551615) : Gives 11 #[V ⟨#[117, 105, 110, 116, 56]⟩ 0 n f E0, .string ⟨#[117, 105, 110, 116, 54, 52]⟩] (.tuple #[V ⟨#[117, 105, 110, 116, 54, 52]⟩ 0 n 0 E0, .int .i64 0]) := by
  have g1 := in_uint8 0 n f E0
  rw [wr_u8 n h1 h2] at g1
  have g3 := cv_uint8_uint64 n
  rw [wr_u64 n h3 h4] at g3
  exact cvt _ _ _ _ _ _ _ _ 120 _ _ _ _ _ rfl g1 ztype_uint64 (Still.gives g3) (out_uint64 n)
theorem ci_uint16_uint8 (n : Int) (f : Nat) (h1 : 0 ≤ n) (h2 : n ≤ 65535) (h3 : 0 ≤ n) (h4 : n ≤ 255) : Gives 11 #[V ⟨#[117, 105, 110, 116, 49, 54]⟩ 0 n f E0, .string ⟨#[117, 105, 110, 116, 56]⟩] (.tuple #[V ⟨#[117, 105, 110, 116, 56]⟩ 0 n 0 E0, .int .i64 0]) := by
  have g1 := in_uint16 0 n f E0
  rw [wr_u16 n h1 h2] at g1
  have g3 := cv_uint16_uint8 n
  rw [wr_u8 n h3 h4] at g3
  exact cvt _ _ _ _ _ _ _ _ 117 _ _ _ _ _ rfl g1 ztype_uint8 (Still.gives g3) (out_uint8 n h3 h4)
theorem ci_uint16_uint16 (n : Int) (f : Nat) (h1 : 0 ≤ n) (h2 : n ≤ 65535) (h3 : 0 ≤ n) (h4 : n ≤ 65535) : Gives 11 #[V ⟨#[117, 105, 110, 116, 49, 54]⟩ 0 n f E0, .string ⟨#[117, 105, 110, 116, 49, 54]⟩] (.tuple #[V ⟨#[117, 105, 110, 116, 49, 54]⟩ 0 n 0 E0, .int .i64 0]) := by
  have g1 := in_uint16 0 n f E0
  rw [wr_u16 n h1 h2] at g1
  have g3 := cv_uint16_uint16 n
  exact cvt _ _ _ _ _ _ _ _ 118 _ _ _ _ _ rfl g1 ztype_uint16 (Still.gives g3) (out_uint16 n h3 h4)
theorem ci_uint16_uint32 (n : Int) (f : Nat) (h1 : 0 ≤ n) (h2 : n ≤ 65535) (h3 : 0 ≤ n) (h4 : n ≤ 4294967295) : Gives 11 #[V ⟨#[117, 105, 110, 116, 49, 54]⟩ 0 n f E0, .string ⟨#[117, 105, 110, 116, 51, 50]⟩] (.tuple #[V ⟨#[117, 105, 110, 116, 51, 50]⟩ 0 n 0 E0, .int .i64 0]) := by
  have g1 := in_uint16 0 n f E0
  rw [wr_u16 n h1 h2] at g1
  have g3 := cv_uint16_uint32 n
  rw [wr_u32 n h3 h4] at g3
  exact cvt _ _ _ _ _ _ _ _ 119 _ _ _ _ _ rfl g1 ztype_uint32 (Still.gives g3) (out_uint32 n h3 h4)
theorem ci_uint16_uint64 (n : Int) (f : Nat) (h1 : 0 ≤ n) (h2 : n ≤ 65535) (h3 : 0 ≤ n) (h4 : n ≤ 18446744073709551615) : Gives 11 #[V ⟨#[117, 105, 110, 116, 49, 54]⟩ 0 n f E0, .string ⟨#[117, 105, 110, 116, 54, 52]⟩] (.tuple #[V ⟨#[117, 105, 110, 116, 54, 52]⟩ 0 n 0 E0, .int .i64 0]) := by
  have g1 := in_uint16 0 n f E0
  rw [wr_u16 n h1 h2] at g1
  have g3 := cv_uint16_uint64 n
  rw [wr_u64 n h3 h4] at g3
  exact cvt _ _ _ _ _ _ _ _ 120 _ _ _ _ _ rfl g1 ztype_uint64 (Still.gives g3) (out_uint64 n)
theorem ci_uint32_uint8 (n : Int) (f : Nat) (h1 : 0 ≤ n) (h2 : n ≤ 4294967295) (h3 : 0 ≤ n) (h4 : n ≤ 255) : Gives 11 #[V ⟨#[117, 105, 110, 116, 51, 50]⟩ 0 n f E0, .string ⟨#[117, 105, 110, 116, 56]⟩] (.tuple #[V ⟨#[117, 105, 110, 116, 56]⟩ 0 n 0 E0, .int .i64 0]) := by
  have g1 := in_uint32 0 n f E0
  rw [wr_u32 n h1 h2] at g1
  have g3 := cv_uint32_uint8 n
  rw [wr_u8 n h3 h4] at g3
  exact cvt _ _ _ _ _ _ _ _ 117 _ _ _ _ _ rfl g1 ztype_uint8 (Still.gives g3) (out_uint8 n h3 h4)
theorem ci_uint32_uint16 (n : Int) (f : Nat) (h1 : 0 ≤ n) (h2 : n ≤ 4294967295) (h3 : 0 ≤ n) (h4 : n ≤ 65535) : Gives 11 #[V ⟨#[117, 105, 110, 116, 51, 50]⟩ 0 n f E0, .string ⟨#[117, 105, 110, 116, 49, 54]⟩] (.tuple #[V ⟨#[117, 105, 110, 116, 49, 54]⟩ 0 n 0 E0, .int .i64 0]) := by
  have g1 := in_uint32 0 n f E0
  rw [wr_u32 n h1 h2] at g1
  have g3 := cv_uint32_uint16 n
  rw [wr_u16 n h3 h4] at g3
  exact cvt _ _ _ _ _ _ _ _ 118 _ _ _ _ _ rfl g1 ztype_uint16 (Still.gives g3) (out_uint16 n h3 h4)
theorem ci_uint32_uint32 (n : Int) (f : Nat) (h1 : 0 ≤ n) (h2 : n ≤ 4294967295) (h3 : 0 ≤ n) (h4 : n ≤ 4294967295) : Gives 11 #[V ⟨#[117, 105, 110, 116, 51, 50]⟩ 0 n f E0, .string ⟨#[117, 105, 110, 116, 51, 50]⟩] (.tuple #[V ⟨#[117, 105, 110, 116, 51, 50]⟩ 0 n 0 E0, .int .i64 0]) := by
  have g1 := in_uint32 0 n f E0
  rw [wr_u32 n h1 h2] at g1
  have g3 := cv_uint32_uint32 n
  exact cvt _ _ _ _ _ _ _ _ 119 _ _ _ _ _ rfl g1 ztype_uint32 (Still.gives g3) (out_uint32 n h3 h4)
theorem ci_uint32_uint64 (n : Int) (f : Nat) (h1 : 0 ≤ n) (h2 : n ≤ 4294967295) (h3 : 0 ≤ n) (h4 : n ≤ 18446744073709551615) : Gives 11 #[V ⟨#[117, 105, 110, 116, 51, 50]⟩ 0 n f E0, .string ⟨#[117, 105, 110, 116, 54, 52]⟩] (.tuple #[V ⟨#[117, 105, 110, 116, 54, 52]⟩ 0 n 0 E0, .int .i64 0]) := by
  have g1 := in_uint32 0 n f E0
  rw [wr_u32 n h1 h2] at g1
  have g3 := cv_uint32_uint64 n
  rw [wr_u64 n h3 h4] at g3
  exact cvt _ _ _ _ _ _ _ _ 120 _ _ _ _ _ rfl g1 ztype_uint64 (Still.gives g3) (out_uint64 n)
theorem ci_uint64_uint8 (n : Int) (f : Nat) (h1 : 0 ≤ n) (h2 : n ≤ 18446744073709551615) (h3 : 0 ≤ n) (h4 : n ≤ 255) : Gives 11 #[V ⟨#[117, 105, 110, 116, 54, 52]⟩ 0 n f E0, .string ⟨#[117, 105, 110, 116, 56]⟩] (.tuple #[V ⟨#[117, 105, 110, 116, 56]⟩ 0 n 0 E0, .int .i64 0]) := by
  have g1 := in_uint64 0 n f E0
  have g3 := cv_uint64_uint8 n
  rw [wr_u8 n h3 h4] at g3
  exact cvt _ _ _ _ _ _ _ _ 117 _ _ _ _ _ rfl g1 ztype_uint8 (Still.gives g3) (out_uint8 n h3 h4)
theorem ci_uint64_uint16 (n : Int) (f : Nat) (h1 : 0 ≤ n) (h2 : n ≤ 18446744073709551615) (h3 : 0 ≤ n) (h4 : n ≤ 65535) : Gives 11 #[V ⟨#[117, 105, 110, 116, 54, 52]⟩ 0 n f E0, .string ⟨#[117, 105, 110, 116, 49, 54]⟩] (.tuple #[V ⟨#[117, 105, 110, 116, 49, 54]⟩ 0 n 0 E0, .int .i64 0]) := by
  have g1 := in_uint64 0 n f E0
  have g3 := cv_uint64_uint16 n
  rw [wr_u16 n h3 h4] at g3
  exact cvt _ _ _ _ _ _ _ _ 118 _ _ _ _ _ rfl g1 ztype_uint16 (Still.gives g3) (out_uint16 n h3 h4)
theorem ci_uint64_uint32 (n : Int) (f : Nat) (h1 : 0 ≤ n) (h2 : n ≤ 18446744073709551615) (h3 : 0 ≤ n) (h4 : n ≤ 4294967295) : Gives 11 #[V ⟨#[117, 105, 110, 116, 54, 52]⟩ 0 n f E0, .string ⟨#[117, 105, 110, 116, 51, 50]⟩] (.tuple #[V ⟨#[117, 105, 110, 116, 51, 50]⟩ 0 n 0 E0, .int .i64 0]) := by
  have g1 := in_uint64 0 n f E0
  have g3 := cv_uint64_uint32 n
  rw [wr_u32 n h3 h4] at g3
  exact cvt _ _ _ _ _ _ _ _ 119 _ _ _ _ _ rfl g1 ztype_uint32 (Still.gives g3) (out_uint32 n h3 h4)
theorem ci_uint64_uint64 (n : Int) (f : Nat) (h1 : 0 ≤ n) (h2 : n ≤ 18446744073709551615) (h3 : 0 ≤ n) (h4 : n ≤ 18446744073709551615) : Gives 11 #[V ⟨#[117, 105, 110, 116, 54, 52]⟩ 0 n f E0, .string ⟨#[117, 105, 110, 116, 54, 52]⟩] (.tuple #[V ⟨#[117, 105, 110, 116, 54, 52]⟩ 0 n 0 E0, .int .i64 0]) := by
  have g1 := in_uint64 0 n f E0
  have g3 := cv_uint64_uint64 n
  exact cvt _ _ _ _ _ _ _ _ 120 _ _ _ _ _ rfl g1 ztype_uint64 (Still.gives g3) (out_uint64 n)
theorem bf0 : bitsF 0 = 0 := by kernel_rfl
theorem ne_empty {s : ByteArray} (h : decide (s = E0) = false) : s.toList.isEmpty = false := by
  rw [← decide_eq_emptyBytes]
  exact h
theorem em_empty : (⟨#[]⟩ : ByteArray).toList.isEmpty = true := by
  rw [← decide_eq_emptyBytes]
  exact decide_eq_true rfl
theorem ne_bool : (⟨#[98, 111, 111, 108]⟩ : ByteArray).toList.isEmpty = false := ne_empty (by kernel_rfl)
theorem ne_int8 : (⟨#[105, 110, 116, 56]⟩ : ByteArray).toList.isEmpty = false := ne_empty (by kernel_rfl)
theorem ne_int16 : (⟨#[105, 110, 116, 49, 54]⟩ : ByteArray).toList.isEmpty = false := ne_empty (by kernel_rfl)
theorem ne_int32 : (⟨#[105, 110, 116, 51, 50]⟩ : ByteArray).toList.isEmpty = false := ne_empty (by kernel_rfl)
theorem ne_int64 : (⟨#[105, 110, 116, 54, 52]⟩ : ByteArray).toList.isEmpty = false := ne_empty (by kernel_rfl)
theorem ne_uint8 : (⟨#[117, 105, 110, 116, 56]⟩ : ByteArray).toList.isEmpty = false := ne_empty (by kernel_rfl)
theorem ne_uint16 : (⟨#[117, 105, 110, 116, 49, 54]⟩ : ByteArray).toList.isEmpty = false := ne_empty (by kernel_rfl)
theorem ne_uint32 : (⟨#[117, 105, 110, 116, 51, 50]⟩ : ByteArray).toList.isEmpty = false := ne_empty (by kernel_rfl)
theorem ne_uint64 : (⟨#[117, 105, 110, 116, 54, 52]⟩ : ByteArray).toList.isEmpty = false := ne_empty (by kernel_rfl)
theorem ne_float32 : (⟨#[102, 108, 111, 97, 116, 51, 50]⟩ : ByteArray).toList.isEmpty = false := ne_empty (by kernel_rfl)
theorem ne_float64 : (⟨#[102, 108, 111, 97, 116, 54, 52]⟩ : ByteArray).toList.isEmpty = false := ne_empty (by kernel_rfl)
theorem ne_string : (⟨#[115, 116, 114, 105, 110, 103]⟩ : ByteArray).toList.isEmpty = false := ne_empty (by kernel_rfl)
theorem ne_blob : (⟨#[98, 108, 111, 98]⟩ : ByteArray).toList.isEmpty = false := ne_empty (by kernel_rfl)
set_option maxRecDepth 100000 in
set_option maxHeartbeats 1000000 in
theorem there_at_bool (n u : Int) (f : Nat) (s : ByteArray) (k : Nat) (hk : k < 13) : Gives 5 #[V ⟨#[98, 111, 111, 108]⟩ n u f s, .int .i64 k] (.bool true) := by
  have Hc := concrete_bool n u f s
  by_cases hp : (u = 0 ∧ bitsF f = 0 ∧ s = E0 ∧ (n = 0 ∨ n = 1)) ∧ (FloatKind.f64.format.order f f == some .eq) = true
  · obtain ⟨⟨rfl, hb, rfl, hn⟩, ho⟩ := hp
    have hg : bitsF 0 = bitsF f := by rw [hb, bf0]
    have own : Gives 11 #[V ⟨#[98, 111, 111, 108]⟩ n 0 f E0, .string ⟨#[98, 111, 111, 108]⟩] (.tuple #[V ⟨#[98, 111, 111, 108]⟩ n 0 0 E0, .int .i64 0]) := by
      rcases hn with rfl | rfl
      · exact cvt _ _ _ _ _ _ _ _ 98 _ _ _ _ _ rfl (in_bool 0 0 f E0) ztype_bool (Still.gives (cv_bool_bool false)) out_bool_false
      · exact cvt _ _ _ _ _ _ _ _ 98 _ _ _ _ _ rfl (in_bool 1 0 f E0) ztype_bool (Still.gives (cv_bool_bool true)) out_bool_true
    have hk' : k = 0 ∨ k = 1 ∨ k = 2 ∨ k = 3 ∨ k = 4 ∨ k = 5 ∨ k = 6 ∨ k = 7 ∨ k = 8 ∨ k = 9 ∨ k = 10 ∨ k = 11 ∨ k = 12 := by omega
    rcases hk' with rfl | rfl | rfl | rfl | rfl | rfl | rfl | rfl | rfl | rfl | rfl | rfl | rfl
    · exact there_narrow ⟨#[98, 111, 111, 108]⟩ n 0 f 0 E0 0 (by decide) _ 0 0 false false ⟨#[98, 111, 111, 108]⟩ rfl ne_bool hg Hc (fun _ => own) width_bool width_bool (.inl rfl)
    · exact there_narrow ⟨#[98, 111, 111, 108]⟩ n 0 f 0 E0 1 (by decide) _ 0 8 false true ⟨#[105, 110, 116, 56]⟩ rfl ne_bool hg Hc (fun _ => own) width_bool width_int8 (.inl rfl)
    · exact there_narrow ⟨#[98, 111, 111, 108]⟩ n 0 f 0 E0 2 (by decide) _ 0 16 false true ⟨#[105, 110, 116, 49, 54]⟩ rfl ne_bool hg Hc (fun _ => own) width_bool width_int16 (.inl rfl)
    · exact there_narrow ⟨#[98, 111, 111, 108]⟩ n 0 f 0 E0 3 (by decide) _ 0 32 false true ⟨#[105, 110, 116, 51, 50]⟩ rfl ne_bool hg Hc (fun _ => own) width_bool width_int32 (.inl rfl)
    · exact there_narrow ⟨#[98, 111, 111, 108]⟩ n 0 f 0 E0 4 (by decide) _ 0 64 false true ⟨#[105, 110, 116, 54, 52]⟩ rfl ne_bool hg Hc (fun _ => own) width_bool width_int64 (.inl rfl)
    · exact there_narrow ⟨#[98, 111, 111, 108]⟩ n 0 f 0 E0 5 (by decide) _ 0 8 false false ⟨#[117, 105, 110, 116, 56]⟩ rfl ne_bool hg Hc (fun _ => own) width_bool width_uint8 (.inl rfl)
    · exact there_narrow ⟨#[98, 111, 111, 108]⟩ n 0 f 0 E0 6 (by decide) _ 0 16 false false ⟨#[117, 105, 110, 116, 49, 54]⟩ rfl ne_bool hg Hc (fun _ => own) width_bool width_uint16 (.inl rfl)
    · exact there_narrow ⟨#[98, 111, 111, 108]⟩ n 0 f 0 E0 7 (by decide) _ 0 32 false false ⟨#[117, 105, 110, 116, 51, 50]⟩ rfl ne_bool hg Hc (fun _ => own) width_bool width_uint32 (.inl rfl)
    · exact there_narrow ⟨#[98, 111, 111, 108]⟩ n 0 f 0 E0 8 (by decide) _ 0 64 false false ⟨#[117, 105, 110, 116, 54, 52]⟩ rfl ne_bool hg Hc (fun _ => own) width_bool width_uint64 (.inl rfl)
    · exact there_narrow ⟨#[98, 111, 111, 108]⟩ n 0 f 0 E0 9 (by decide) _ 0 0 false false ⟨#[102, 108, 111, 97, 116, 51, 50]⟩ rfl ne_bool hg Hc (fun _ => own) width_bool width_float32 (.inl rfl)
    · exact there_narrow ⟨#[98, 111, 111, 108]⟩ n 0 f 0 E0 10 (by decide) _ 0 0 false false ⟨#[102, 108, 111, 97, 116, 54, 52]⟩ rfl ne_bool hg Hc (fun _ => own) width_bool width_float64 (.inl rfl)
    · exact there_narrow ⟨#[98, 111, 111, 108]⟩ n 0 f 0 E0 11 (by decide) _ 0 0 false false ⟨#[115, 116, 114, 105, 110, 103]⟩ rfl ne_bool hg Hc (fun _ => own) width_bool width_string (.inl rfl)
    · exact there_narrow ⟨#[98, 111, 111, 108]⟩ n 0 f 0 E0 12 (by decide) _ 0 0 false false ⟨#[98, 108, 111, 98]⟩ rfl ne_bool hg Hc (fun _ => own) width_bool width_blob (.inl rfl)
  · exact there_early ⟨#[98, 111, 111, 108]⟩ n u f s k _ Hc (.inr (.inr (.inr hp)))
set_option maxRecDepth 100000 in
set_option maxHeartbeats 1000000 in
theorem there_at_int8 (n u : Int) (f : Nat) (s : ByteArray) (hn0 : -9223372036854775808 ≤ n) (hn1 : n < 9223372036854775808) (k : Nat) (hk : k < 13) : Gives 5 #[V ⟨#[105, 110, 116, 56]⟩ n u f s, .int .i64 k] (.bool true) := by
  have Hc := concrete_int8 n u f s
  by_cases hp : (u = 0 ∧ bitsF f = 0 ∧ s = E0 ∧ n / 128 = n / 9223372036854775808) ∧ (FloatKind.f64.format.order f f == some .eq) = true
  · obtain ⟨⟨rfl, hb, rfl, hr⟩, ho⟩ := hp
    have r1 : -128 ≤ n := by omega
    have r2 : n ≤ 127 := by omega
    have hg : bitsF 0 = bitsF f := by rw [hb, bf0]
    have own := ci_int8_int8 n f r1 r2 r1 r2
    have hk' : k = 0 ∨ k = 1 ∨ k = 2 ∨ k = 3 ∨ k = 4 ∨ k = 5 ∨ k = 6 ∨ k = 7 ∨ k = 8 ∨ k = 9 ∨ k = 10 ∨ k = 11 ∨ k = 12 := by omega
    rcases hk' with rfl | rfl | rfl | rfl | rfl | rfl | rfl | rfl | rfl | rfl | rfl | rfl | rfl
    · exact there_narrow ⟨#[105, 110, 116, 56]⟩ n 0 f 0 E0 0 (by decide) _ 8 0 true false ⟨#[98, 111, 111, 108]⟩ rfl ne_int8 hg Hc (fun _ => own) width_int8 width_bool (.inr (.inl ⟨rfl, by decide⟩))
    · exact there_full ⟨#[105, 110, 116, 56]⟩ n 0 f 0 E0 1 (by decide) _ 8 8 true true ⟨#[105, 110, 116, 56]⟩ rfl ne_int8 hg Hc (fun _ => own) width_int8 width_int8 (fun _ => ci_int8_int8 n f r1 r2 (by omega) (by omega)) (fun _ => ci_int8_int8 n 0 (by omega) (by omega) r1 r2) rfl (by decide) rfl
    · exact there_full ⟨#[105, 110, 116, 56]⟩ n 0 f 0 E0 2 (by decide) _ 8 16 true true ⟨#[105, 110, 116, 49, 54]⟩ rfl ne_int8 hg Hc (fun _ => own) width_int8 width_int16 (fun _ => ci_int8_int16 n f r1 r2 (by omega) (by omega)) (fun _ => ci_int16_int8 n 0 (by omega) (by omega) r1 r2) rfl (by decide) rfl
    · exact there_full ⟨#[105, 110, 116, 56]⟩ n 0 f 0 E0 3 (by decide) _ 8 32 true true ⟨#[105, 110, 116, 51, 50]⟩ rfl ne_int8 hg Hc (fun _ => own) width_int8 width_int32 (fun _ => ci_int8_int32 n f r1 r2 (by omega) (by omega)) (fun _ => ci_int32_int8 n 0 (by omega) (by omega) r1 r2) rfl (by decide) rfl
    · exact there_full ⟨#[105, 110, 116, 56]⟩ n 0 f 0 E0 4 (by decide) _ 8 64 true true ⟨#[105, 110, 116, 54, 52]⟩ rfl ne_int8 hg Hc (fun _ => own) width_int8 width_int64 (fun _ => ci_int8_int64 n f r1 r2 (by omega) (by omega)) (fun _ => ci_int64_int8 n 0 (by omega) (by omega) r1 r2) rfl (by decide) rfl
    · exact there_narrow ⟨#[105, 110, 116, 56]⟩ n 0 f 0 E0 5 (by decide) _ 8 8 true false ⟨#[117, 105, 110, 116, 56]⟩ rfl ne_int8 hg Hc (fun _ => own) width_int8 width_uint8 (.inr (.inr ⟨rfl, by decide, rfl⟩))
    · exact there_narrow ⟨#[105, 110, 116, 56]⟩ n 0 f 0 E0 6 (by decide) _ 8 16 true false ⟨#[117, 105, 110, 116, 49, 54]⟩ rfl ne_int8 hg Hc (fun _ => own) width_int8 width_uint16 (.inr (.inr ⟨rfl, by decide, rfl⟩))
    · exact there_narrow ⟨#[105, 110, 116, 56]⟩ n 0 f 0 E0 7 (by decide) _ 8 32 true false ⟨#[117, 105, 110, 116, 51, 50]⟩ rfl ne_int8 hg Hc (fun _ => own) width_int8 width_uint32 (.inr (.inr ⟨rfl, by decide, rfl⟩))
    · exact there_narrow ⟨#[105, 110, 116, 56]⟩ n 0 f 0 E0 8 (by decide) _ 8 64 true false ⟨#[117, 105, 110, 116, 54, 52]⟩ rfl ne_int8 hg Hc (fun _ => own) width_int8 width_uint64 (.inr (.inr ⟨rfl, by decide, rfl⟩))
    · exact there_narrow ⟨#[105, 110, 116, 56]⟩ n 0 f 0 E0 9 (by decide) _ 8 0 true false ⟨#[102, 108, 111, 97, 116, 51, 50]⟩ rfl ne_int8 hg Hc (fun _ => own) width_int8 width_float32 (.inr (.inl ⟨rfl, by decide⟩))
    · exact there_narrow ⟨#[105, 110, 116, 56]⟩ n 0 f 0 E0 10 (by decide) _ 8 0 true false ⟨#[102, 108, 111, 97, 116, 54, 52]⟩ rfl ne_int8 hg Hc (fun _ => own) width_int8 width_float64 (.inr (.inl ⟨rfl, by decide⟩))
    · exact there_narrow ⟨#[105, 110, 116, 56]⟩ n 0 f 0 E0 11 (by decide) _ 8 0 true false ⟨#[115, 116, 114, 105, 110, 103]⟩ rfl ne_int8 hg Hc (fun _ => own) width_int8 width_string (.inr (.inl ⟨rfl, by decide⟩))
    · exact there_narrow ⟨#[105, 110, 116, 56]⟩ n 0 f 0 E0 12 (by decide) _ 8 0 true false ⟨#[98, 108, 111, 98]⟩ rfl ne_int8 hg Hc (fun _ => own) width_int8 width_blob (.inr (.inl ⟨rfl, by decide⟩))
  · exact there_early ⟨#[105, 110, 116, 56]⟩ n u f s k _ Hc (.inr (.inr (.inr hp)))
set_option maxRecDepth 100000 in
set_option maxHeartbeats 1000000 in
theorem there_at_int16 (n u : Int) (f : Nat) (s : ByteArray) (hn0 : -9223372036854775808 ≤ n) (hn1 : n < 9223372036854775808) (k : Nat) (hk : k < 13) : Gives 5 #[V ⟨#[105, 110, 116, 49, 54]⟩ n u f s, .int .i64 k] (.bool true) := by
  have Hc := concrete_int16 n u f s
  by_cases hp : (u = 0 ∧ bitsF f = 0 ∧ s = E0 ∧ n / 32768 = n / 9223372036854775808) ∧ (FloatKind.f64.format.order f f == some .eq) = true
  · obtain ⟨⟨rfl, hb, rfl, hr⟩, ho⟩ := hp
    have r1 : -32768 ≤ n := by omega
    have r2 : n ≤ 32767 := by omega
    have hg : bitsF 0 = bitsF f := by rw [hb, bf0]
    have own := ci_int16_int16 n f r1 r2 r1 r2
    have hk' : k = 0 ∨ k = 1 ∨ k = 2 ∨ k = 3 ∨ k = 4 ∨ k = 5 ∨ k = 6 ∨ k = 7 ∨ k = 8 ∨ k = 9 ∨ k = 10 ∨ k = 11 ∨ k = 12 := by omega
    rcases hk' with rfl | rfl | rfl | rfl | rfl | rfl | rfl | rfl | rfl | rfl | rfl | rfl | rfl
    · exact there_narrow ⟨#[105, 110, 116, 49, 54]⟩ n 0 f 0 E0 0 (by decide) _ 16 0 true false ⟨#[98, 111, 111, 108]⟩ rfl ne_int16 hg Hc (fun _ => own) width_int16 width_bool (.inr (.inl ⟨rfl, by decide⟩))
    · exact there_narrow ⟨#[105, 110, 116, 49, 54]⟩ n 0 f 0 E0 1 (by decide) _ 16 8 true true ⟨#[105, 110, 116, 56]⟩ rfl ne_int16 hg Hc (fun _ => own) width_int16 width_int8 (.inr (.inl ⟨rfl, by decide⟩))
    · exact there_full ⟨#[105, 110, 116, 49, 54]⟩ n 0 f 0 E0 2 (by decide) _ 16 16 true true ⟨#[105, 110, 116, 49, 54]⟩ rfl ne_int16 hg Hc (fun _ => own) width_int16 width_int16 (fun _ => ci_int16_int16 n f r1 r2 (by omega) (by omega)) (fun _ => ci_int16_int16 n 0 (by omega) (by omega) r1 r2) rfl (by decide) rfl
    · exact there_full ⟨#[105, 110, 116, 49, 54]⟩ n 0 f 0 E0 3 (by decide) _ 16 32 true true ⟨#[105, 110, 116, 51, 50]⟩ rfl ne_int16 hg Hc (fun _ => own) width_int16 width_int32 (fun _ => ci_int16_int32 n f r1 r2 (by omega) (by omega)) (fun _ => ci_int32_int16 n 0 (by omega) (by omega) r1 r2) rfl (by decide) rfl
    · exact there_full ⟨#[105, 110, 116, 49, 54]⟩ n 0 f 0 E0 4 (by decide) _ 16 64 true true ⟨#[105, 110, 116, 54, 52]⟩ rfl ne_int16 hg Hc (fun _ => own) width_int16 width_int64 (fun _ => ci_int16_int64 n f r1 r2 (by omega) (by omega)) (fun _ => ci_int64_int16 n 0 (by omega) (by omega) r1 r2) rfl (by decide) rfl
    · exact there_narrow ⟨#[105, 110, 116, 49, 54]⟩ n 0 f 0 E0 5 (by decide) _ 16 8 true false ⟨#[117, 105, 110, 116, 56]⟩ rfl ne_int16 hg Hc (fun _ => own) width_int16 width_uint8 (.inr (.inl ⟨rfl, by decide⟩))
    · exact there_narrow ⟨#[105, 110, 116, 49, 54]⟩ n 0 f 0 E0 6 (by decide) _ 16 16 true false ⟨#[117, 105, 110, 116, 49, 54]⟩ rfl ne_int16 hg Hc (fun _ => own) width_int16 width_uint16 (.inr (.inr ⟨rfl, by decide, rfl⟩))
    · exact there_narrow ⟨#[105, 110, 116, 49, 54]⟩ n 0 f 0 E0 7 (by decide) _ 16 32 true false ⟨#[117, 105, 110, 116, 51, 50]⟩ rfl ne_int16 hg Hc (fun _ => own) width_int16 width_uint32 (.inr (.inr ⟨rfl, by decide, rfl⟩))
    · exact there_narrow ⟨#[105, 110, 116, 49, 54]⟩ n 0 f 0 E0 8 (by decide) _ 16 64 true false ⟨#[117, 105, 110, 116, 54, 52]⟩ rfl ne_int16 hg Hc (fun _ => own) width_int16 width_uint64 (.inr (.inr ⟨rfl, by decide, rfl⟩))
    · exact there_narrow ⟨#[105, 110, 116, 49, 54]⟩ n 0 f 0 E0 9 (by decide) _ 16 0 true false ⟨#[102, 108, 111, 97, 116, 51, 50]⟩ rfl ne_int16 hg Hc (fun _ => own) width_int16 width_float32 (.inr (.inl ⟨rfl, by decide⟩))
    · exact there_narrow ⟨#[105, 110, 116, 49, 54]⟩ n 0 f 0 E0 10 (by decide) _ 16 0 true false ⟨#[102, 108, 111, 97, 116, 54, 52]⟩ rfl ne_int16 hg Hc (fun _ => own) width_int16 width_float64 (.inr (.inl ⟨rfl, by decide⟩))
    · exact there_narrow ⟨#[105, 110, 116, 49, 54]⟩ n 0 f 0 E0 11 (by decide) _ 16 0 true false ⟨#[115, 116, 114, 105, 110, 103]⟩ rfl ne_int16 hg Hc (fun _ => own) width_int16 width_string (.inr (.inl ⟨rfl, by decide⟩))
    · exact there_narrow ⟨#[105, 110, 116, 49, 54]⟩ n 0 f 0 E0 12 (by decide) _ 16 0 true false ⟨#[98, 108, 111, 98]⟩ rfl ne_int16 hg Hc (fun _ => own) width_int16 width_blob (.inr (.inl ⟨rfl, by decide⟩))
  · exact there_early ⟨#[105, 110, 116, 49, 54]⟩ n u f s k _ Hc (.inr (.inr (.inr hp)))
set_option maxRecDepth 100000 in
set_option maxHeartbeats 1000000 in
theorem there_at_int32 (n u : Int) (f : Nat) (s : ByteArray) (hn0 : -9223372036854775808 ≤ n) (hn1 : n < 9223372036854775808) (k : Nat) (hk : k < 13) : Gives 5 #[V ⟨#[105, 110, 116, 51, 50]⟩ n u f s, .int .i64 k] (.bool true) := by
  have Hc := concrete_int32 n u f s
  by_cases hp : (u = 0 ∧ bitsF f = 0 ∧ s = E0 ∧ n / 2147483648 = n / 9223372036854775808) ∧ (FloatKind.f64.format.order f f == some .eq) = true
  · obtain ⟨⟨rfl, hb, rfl, hr⟩, ho⟩ := hp
    have r1 : -2147483648 ≤ n := by omega
    have r2 : n ≤ 2147483647 := by omega
    have hg : bitsF 0 = bitsF f := by rw [hb, bf0]
    have own := ci_int32_int32 n f r1 r2 r1 r2
    have hk' : k = 0 ∨ k = 1 ∨ k = 2 ∨ k = 3 ∨ k = 4 ∨ k = 5 ∨ k = 6 ∨ k = 7 ∨ k = 8 ∨ k = 9 ∨ k = 10 ∨ k = 11 ∨ k = 12 := by omega
    rcases hk' with rfl | rfl | rfl | rfl | rfl | rfl | rfl | rfl | rfl | rfl | rfl | rfl | rfl
    · exact there_narrow ⟨#[105, 110, 116, 51, 50]⟩ n 0 f 0 E0 0 (by decide) _ 32 0 true false ⟨#[98, 111, 111, 108]⟩ rfl ne_int32 hg Hc (fun _ => own) width_int32 width_bool (.inr (.inl ⟨rfl, by decide⟩))
    · exact there_narrow ⟨#[105, 110, 116, 51, 50]⟩ n 0 f 0 E0 1 (by decide) _ 32 8 true true ⟨#[105, 110, 116, 56]⟩ rfl ne_int32 hg Hc (fun _ => own) width_int32 width_int8 (.inr (.inl ⟨rfl, by decide⟩))
    · exact there_narrow ⟨#[105, 110, 116, 51, 50]⟩ n 0 f 0 E0 2 (by decide) _ 32 16 true true ⟨#[105, 110, 116, 49, 54]⟩ rfl ne_int32 hg Hc (fun _ => own) width_int32 width_int16 (.inr (.inl ⟨rfl, by decide⟩))
    · exact there_full ⟨#[105, 110, 116, 51, 50]⟩ n 0 f 0 E0 3 (by decide) _ 32 32 true true ⟨#[105, 110, 116, 51, 50]⟩ rfl ne_int32 hg Hc (fun _ => own) width_int32 width_int32 (fun _ => ci_int32_int32 n f r1 r2 (by omega) (by omega)) (fun _ => ci_int32_int32 n 0 (by omega) (by omega) r1 r2) rfl (by decide) rfl
    · exact there_full ⟨#[105, 110, 116, 51, 50]⟩ n 0 f 0 E0 4 (by decide) _ 32 64 true true ⟨#[105, 110, 116, 54, 52]⟩ rfl ne_int32 hg Hc (fun _ => own) width_int32 width_int64 (fun _ => ci_int32_int64 n f r1 r2 (by omega) (by omega)) (fun _ => ci_int64_int32 n 0 (by omega) (by omega) r1 r2) rfl (by decide) rfl
    · exact there_narrow ⟨#[105, 110, 116, 51, 50]⟩ n 0 f 0 E0 5 (by decide) _ 32 8 true false ⟨#[117, 105, 110, 116, 56]⟩ rfl ne_int32 hg Hc (fun _ => own) width_int32 width_uint8 (.inr (.inl ⟨rfl, by decide⟩))
    · exact there_narrow ⟨#[105, 110, 116, 51, 50]⟩ n 0 f 0 E0 6 (by decide) _ 32 16 true false ⟨#[117, 105, 110, 116, 49, 54]⟩ rfl ne_int32 hg Hc (fun _ => own) width_int32 width_uint16 (.inr (.inl ⟨rfl, by decide⟩))
    · exact there_narrow ⟨#[105, 110, 116, 51, 50]⟩ n 0 f 0 E0 7 (by decide) _ 32 32 true false ⟨#[117, 105, 110, 116, 51, 50]⟩ rfl ne_int32 hg Hc (fun _ => own) width_int32 width_uint32 (.inr (.inr ⟨rfl, by decide, rfl⟩))
    · exact there_narrow ⟨#[105, 110, 116, 51, 50]⟩ n 0 f 0 E0 8 (by decide) _ 32 64 true false ⟨#[117, 105, 110, 116, 54, 52]⟩ rfl ne_int32 hg Hc (fun _ => own) width_int32 width_uint64 (.inr (.inr ⟨rfl, by decide, rfl⟩))
    · exact there_narrow ⟨#[105, 110, 116, 51, 50]⟩ n 0 f 0 E0 9 (by decide) _ 32 0 true false ⟨#[102, 108, 111, 97, 116, 51, 50]⟩ rfl ne_int32 hg Hc (fun _ => own) width_int32 width_float32 (.inr (.inl ⟨rfl, by decide⟩))
    · exact there_narrow ⟨#[105, 110, 116, 51, 50]⟩ n 0 f 0 E0 10 (by decide) _ 32 0 true false ⟨#[102, 108, 111, 97, 116, 54, 52]⟩ rfl ne_int32 hg Hc (fun _ => own) width_int32 width_float64 (.inr (.inl ⟨rfl, by decide⟩))
    · exact there_narrow ⟨#[105, 110, 116, 51, 50]⟩ n 0 f 0 E0 11 (by decide) _ 32 0 true false ⟨#[115, 116, 114, 105, 110, 103]⟩ rfl ne_int32 hg Hc (fun _ => own) width_int32 width_string (.inr (.inl ⟨rfl, by decide⟩))
    · exact there_narrow ⟨#[105, 110, 116, 51, 50]⟩ n 0 f 0 E0 12 (by decide) _ 32 0 true false ⟨#[98, 108, 111, 98]⟩ rfl ne_int32 hg Hc (fun _ => own) width_int32 width_blob (.inr (.inl ⟨rfl, by decide⟩))
  · exact there_early ⟨#[105, 110, 116, 51, 50]⟩ n u f s k _ Hc (.inr (.inr (.inr hp)))
set_option maxRecDepth 100000 in
set_option maxHeartbeats 1000000 in
theorem there_at_int64 (n u : Int) (f : Nat) (s : ByteArray) (hn0 : -9223372036854775808 ≤ n) (hn1 : n < 9223372036854775808) (k : Nat) (hk : k < 13) : Gives 5 #[V ⟨#[105, 110, 116, 54, 52]⟩ n u f s, .int .i64 k] (.bool true) := by
  have Hc := concrete_int64 n u f s
  by_cases hp : (u = 0 ∧ bitsF f = 0 ∧ s = E0) ∧ (FloatKind.f64.format.order f f == some .eq) = true
  · obtain ⟨⟨rfl, hb, rfl⟩, ho⟩ := hp
    have r1 : -9223372036854775808 ≤ n := by omega
    have r2 : n ≤ 9223372036854775807 := by omega
    have hg : bitsF 0 = bitsF f := by rw [hb, bf0]
    have own := ci_int64_int64 n f r1 r2 r1 r2
    have hk' : k = 0 ∨ k = 1 ∨ k = 2 ∨ k = 3 ∨ k = 4 ∨ k = 5 ∨ k = 6 ∨ k = 7 ∨ k = 8 ∨ k = 9 ∨ k = 10 ∨ k = 11 ∨ k = 12 := by omega
    rcases hk' with rfl | rfl | rfl | rfl | rfl | rfl | rfl | rfl | rfl | rfl | rfl | rfl | rfl
    · exact there_narrow ⟨#[105, 110, 116, 54, 52]⟩ n 0 f 0 E0 0 (by decide) _ 64 0 true false ⟨#[98, 111, 111, 108]⟩ rfl ne_int64 hg Hc (fun _ => own) width_int64 width_bool (.inr (.inl ⟨rfl, by decide⟩))
    · exact there_narrow ⟨#[105, 110, 116, 54, 52]⟩ n 0 f 0 E0 1 (by decide) _ 64 8 true true ⟨#[105, 110, 116, 56]⟩ rfl ne_int64 hg Hc (fun _ => own) width_int64 width_int8 (.inr (.inl ⟨rfl, by decide⟩))
    · exact there_narrow ⟨#[105, 110, 116, 54, 52]⟩ n 0 f 0 E0 2 (by decide) _ 64 16 true true ⟨#[105, 110, 116, 49, 54]⟩ rfl ne_int64 hg Hc (fun _ => own) width_int64 width_int16 (.inr (.inl ⟨rfl, by decide⟩))
    · exact there_narrow ⟨#[105, 110, 116, 54, 52]⟩ n 0 f 0 E0 3 (by decide) _ 64 32 true true ⟨#[105, 110, 116, 51, 50]⟩ rfl ne_int64 hg Hc (fun _ => own) width_int64 width_int32 (.inr (.inl ⟨rfl, by decide⟩))
    · exact there_full ⟨#[105, 110, 116, 54, 52]⟩ n 0 f 0 E0 4 (by decide) _ 64 64 true true ⟨#[105, 110, 116, 54, 52]⟩ rfl ne_int64 hg Hc (fun _ => own) width_int64 width_int64 (fun _ => ci_int64_int64 n f r1 r2 (by omega) (by omega)) (fun _ => ci_int64_int64 n 0 (by omega) (by omega) r1 r2) rfl (by decide) rfl
    · exact there_narrow ⟨#[105, 110, 116, 54, 52]⟩ n 0 f 0 E0 5 (by decide) _ 64 8 true false ⟨#[117, 105, 110, 116, 56]⟩ rfl ne_int64 hg Hc (fun _ => own) width_int64 width_uint8 (.inr (.inl ⟨rfl, by decide⟩))
    · exact there_narrow ⟨#[105, 110, 116, 54, 52]⟩ n 0 f 0 E0 6 (by decide) _ 64 16 true false ⟨#[117, 105, 110, 116, 49, 54]⟩ rfl ne_int64 hg Hc (fun _ => own) width_int64 width_uint16 (.inr (.inl ⟨rfl, by decide⟩))
    · exact there_narrow ⟨#[105, 110, 116, 54, 52]⟩ n 0 f 0 E0 7 (by decide) _ 64 32 true false ⟨#[117, 105, 110, 116, 51, 50]⟩ rfl ne_int64 hg Hc (fun _ => own) width_int64 width_uint32 (.inr (.inl ⟨rfl, by decide⟩))
    · exact there_narrow ⟨#[105, 110, 116, 54, 52]⟩ n 0 f 0 E0 8 (by decide) _ 64 64 true false ⟨#[117, 105, 110, 116, 54, 52]⟩ rfl ne_int64 hg Hc (fun _ => own) width_int64 width_uint64 (.inr (.inr ⟨rfl, by decide, rfl⟩))
    · exact there_narrow ⟨#[105, 110, 116, 54, 52]⟩ n 0 f 0 E0 9 (by decide) _ 64 0 true false ⟨#[102, 108, 111, 97, 116, 51, 50]⟩ rfl ne_int64 hg Hc (fun _ => own) width_int64 width_float32 (.inr (.inl ⟨rfl, by decide⟩))
    · exact there_narrow ⟨#[105, 110, 116, 54, 52]⟩ n 0 f 0 E0 10 (by decide) _ 64 0 true false ⟨#[102, 108, 111, 97, 116, 54, 52]⟩ rfl ne_int64 hg Hc (fun _ => own) width_int64 width_float64 (.inr (.inl ⟨rfl, by decide⟩))
    · exact there_narrow ⟨#[105, 110, 116, 54, 52]⟩ n 0 f 0 E0 11 (by decide) _ 64 0 true false ⟨#[115, 116, 114, 105, 110, 103]⟩ rfl ne_int64 hg Hc (fun _ => own) width_int64 width_string (.inr (.inl ⟨rfl, by decide⟩))
    · exact there_narrow ⟨#[105, 110, 116, 54, 52]⟩ n 0 f 0 E0 12 (by decide) _ 64 0 true false ⟨#[98, 108, 111, 98]⟩ rfl ne_int64 hg Hc (fun _ => own) width_int64 width_blob (.inr (.inl ⟨rfl, by decide⟩))
  · exact there_early ⟨#[105, 110, 116, 54, 52]⟩ n u f s k _ Hc (.inr (.inr (.inr hp)))
set_option maxRecDepth 100000 in
set_option maxHeartbeats 1000000 in
theorem there_at_uint8 (n u : Int) (f : Nat) (s : ByteArray) (hu0 : 0 ≤ u) (hu1 : u < 18446744073709551616) (k : Nat) (hk : k < 13) : Gives 5 #[V ⟨#[117, 105, 110, 116, 56]⟩ n u f s, .int .i64 k] (.bool true) := by
  have Hc := concrete_uint8 n u f s
  by_cases hp : (n = 0 ∧ bitsF f = 0 ∧ s = E0 ∧ u / 256 = 0) ∧ (FloatKind.f64.format.order f f == some .eq) = true
  · obtain ⟨⟨rfl, hb, rfl, hr⟩, ho⟩ := hp
    have r1 : 0 ≤ u := by omega
    have r2 : u ≤ 255 := by omega
    have hg : bitsF 0 = bitsF f := by rw [hb, bf0]
    have own := ci_uint8_uint8 u f r1 r2 r1 r2
    have hk' : k = 0 ∨ k = 1 ∨ k = 2 ∨ k = 3 ∨ k = 4 ∨ k = 5 ∨ k = 6 ∨ k = 7 ∨ k = 8 ∨ k = 9 ∨ k = 10 ∨ k = 11 ∨ k = 12 := by omega
    rcases hk' with rfl | rfl | rfl | rfl | rfl | rfl | rfl | rfl | rfl | rfl | rfl | rfl | rfl
    · exact there_narrow ⟨#[117, 105, 110, 116, 56]⟩ 0 u f 0 E0 0 (by decide) _ 8 0 false false ⟨#[98, 111, 111, 108]⟩ rfl ne_uint8 hg Hc (fun _ => own) width_uint8 width_bool (.inr (.inl ⟨rfl, by decide⟩))
    · exact there_narrow ⟨#[117, 105, 110, 116, 56]⟩ 0 u f 0 E0 1 (by decide) _ 8 8 false true ⟨#[105, 110, 116, 56]⟩ rfl ne_uint8 hg Hc (fun _ => own) width_uint8 width_int8 (.inr (.inr ⟨rfl, by decide, rfl⟩))
    · exact there_narrow ⟨#[117, 105, 110, 116, 56]⟩ 0 u f 0 E0 2 (by decide) _ 8 16 false true ⟨#[105, 110, 116, 49, 54]⟩ rfl ne_uint8 hg Hc (fun _ => own) width_uint8 width_int16 (.inr (.inr ⟨rfl, by decide, rfl⟩))
    · exact there_narrow ⟨#[117, 105, 110, 116, 56]⟩ 0 u f 0 E0 3 (by decide) _ 8 32 false true ⟨#[105, 110, 116, 51, 50]⟩ rfl ne_uint8 hg Hc (fun _ => own) width_uint8 width_int32 (.inr (.inr ⟨rfl, by decide, rfl⟩))
    · exact there_narrow ⟨#[117, 105, 110, 116, 56]⟩ 0 u f 0 E0 4 (by decide) _ 8 64 false true ⟨#[105, 110, 116, 54, 52]⟩ rfl ne_uint8 hg Hc (fun _ => own) width_uint8 width_int64 (.inr (.inr ⟨rfl, by decide, rfl⟩))
    · exact there_full ⟨#[117, 105, 110, 116, 56]⟩ 0 u f 0 E0 5 (by decide) _ 8 8 false false ⟨#[117, 105, 110, 116, 56]⟩ rfl ne_uint8 hg Hc (fun _ => own) width_uint8 width_uint8 (fun _ => ci_uint8_uint8 u f r1 r2 (by omega) (by omega)) (fun _ => ci_uint8_uint8 u 0 (by omega) (by omega) r1 r2) rfl (by decide) rfl
    · exact there_full ⟨#[117, 105, 110, 116, 56]⟩ 0 u f 0 E0 6 (by decide) _ 8 16 false false ⟨#[117, 105, 110, 116, 49, 54]⟩ rfl ne_uint8 hg Hc (fun _ => own) width_uint8 width_uint16 (fun _ => ci_uint8_uint16 u f r1 r2 (by omega) (by omega)) (fun _ => ci_uint16_uint8 u 0 (by omega) (by omega) r1 r2) rfl (by decide) rfl
    · exact there_full ⟨#[117, 105, 110, 116, 56]⟩ 0 u f 0 E0 7 (by decide) _ 8 32 false false ⟨#[117, 105, 110, 116, 51, 50]⟩ rfl ne_uint8 hg Hc (fun _ => own) width_uint8 width_uint32 (fun _ => ci_uint8_uint32 u f r1 r2 (by omega) (by omega)) (fun _ => ci_uint32_uint8 u 0 (by omega) (by omega) r1 r2) rfl (by decide) rfl
    · exact there_full ⟨#[117, 105, 110, 116, 56]⟩ 0 u f 0 E0 8 (by decide) _ 8 64 false false ⟨#[117, 105, 110, 116, 54, 52]⟩ rfl ne_uint8 hg Hc (fun _ => own) width_uint8 width_uint64 (fun _ => ci_uint8_uint64 u f r1 r2 (by omega) (by omega)) (fun _ => ci_uint64_uint8 u 0 (by omega) (by omega) r1 r2) rfl (by decide) rfl
    · exact there_narrow ⟨#[117, 105, 110, 116, 56]⟩ 0 u f 0 E0 9 (by decide) _ 8 0 false false ⟨#[102, 108, 111, 97, 116, 51, 50]⟩ rfl ne_uint8 hg Hc (fun _ => own) width_uint8 width_float32 (.inr (.inl ⟨rfl, by decide⟩))
    · exact there_narrow ⟨#[117, 105, 110, 116, 56]⟩ 0 u f 0 E0 10 (by decide) _ 8 0 false false ⟨#[102, 108, 111, 97, 116, 54, 52]⟩ rfl ne_uint8 hg Hc (fun _ => own) width_uint8 width_float64 (.inr (.inl ⟨rfl, by decide⟩))
    · exact there_narrow ⟨#[117, 105, 110, 116, 56]⟩ 0 u f 0 E0 11 (by decide) _ 8 0 false false ⟨#[115, 116, 114, 105, 110, 103]⟩ rfl ne_uint8 hg Hc (fun _ => own) width_uint8 width_string (.inr (.inl ⟨rfl, by decide⟩))
    · exact there_narrow ⟨#[117, 105, 110, 116, 56]⟩ 0 u f 0 E0 12 (by decide) _ 8 0 false false ⟨#[98, 108, 111, 98]⟩ rfl ne_uint8 hg Hc (fun _ => own) width_uint8 width_blob (.inr (.inl ⟨rfl, by decide⟩))
  · exact there_early ⟨#[117, 105, 110, 116, 56]⟩ n u f s k _ Hc (.inr (.inr (.inr hp)))
set_option maxRecDepth 100000 in
set_option maxHeartbeats 1000000 in
theorem there_at_uint16 (n u : Int) (f : Nat) (s : ByteArray) (hu0 : 0 ≤ u) (hu1 : u < 18446744073709551616) (k : Nat) (hk : k < 13) : Gives 5 #[V ⟨#[117, 105, 110, 116, 49, 54]⟩ n u f s, .int .i64 k] (.bool true) := by
  have Hc := concrete_uint16 n u f s
  by_cases hp : (n = 0 ∧ bitsF f = 0 ∧ s = E0 ∧ u / 65536 = 0) ∧ (FloatKind.f64.format.order f f == some .eq) = true
  · obtain ⟨⟨rfl, hb, rfl, hr⟩, ho⟩ := hp
    have r1 : 0 ≤ u := by omega
    have r2 : u ≤ 65535 := by omega
    have hg : bitsF 0 = bitsF f := by rw [hb, bf0]
    have own := ci_uint16_uint16 u f r1 r2 r1 r2
    have hk' : k = 0 ∨ k = 1 ∨ k = 2 ∨ k = 3 ∨ k = 4 ∨ k = 5 ∨ k = 6 ∨ k = 7 ∨ k = 8 ∨ k = 9 ∨ k = 10 ∨ k = 11 ∨ k = 12 := by omega
    rcases hk' with rfl | rfl | rfl | rfl | rfl | rfl | rfl | rfl | rfl | rfl | rfl | rfl | rfl
    · exact there_narrow ⟨#[117, 105, 110, 116, 49, 54]⟩ 0 u f 0 E0 0 (by decide) _ 16 0 false false ⟨#[98, 111, 111, 108]⟩ rfl ne_uint16 hg Hc (fun _ => own) width_uint16 width_bool (.inr (.inl ⟨rfl, by decide⟩))
    · exact there_narrow ⟨#[117, 105, 110, 116, 49, 54]⟩ 0 u f 0 E0 1 (by decide) _ 16 8 false true ⟨#[105, 110, 116, 56]⟩ rfl ne_uint16 hg Hc (fun _ => own) width_uint16 width_int8 (.inr (.inl ⟨rfl, by decide⟩))
    · exact there_narrow ⟨#[117, 105, 110, 116, 49, 54]⟩ 0 u f 0 E0 2 (by decide) _ 16 16 false true ⟨#[105, 110, 116, 49, 54]⟩ rfl ne_uint16 hg Hc (fun _ => own) width_uint16 width_int16 (.inr (.inr ⟨rfl, by decide, rfl⟩))
    · exact there_narrow ⟨#[117, 105, 110, 116, 49, 54]⟩ 0 u f 0 E0 3 (by decide) _ 16 32 false true ⟨#[105, 110, 116, 51, 50]⟩ rfl ne_uint16 hg Hc (fun _ => own) width_uint16 width_int32 (.inr (.inr ⟨rfl, by decide, rfl⟩))
    · exact there_narrow ⟨#[117, 105, 110, 116, 49, 54]⟩ 0 u f 0 E0 4 (by decide) _ 16 64 false true ⟨#[105, 110, 116, 54, 52]⟩ rfl ne_uint16 hg Hc (fun _ => own) width_uint16 width_int64 (.inr (.inr ⟨rfl, by decide, rfl⟩))
    · exact there_narrow ⟨#[117, 105, 110, 116, 49, 54]⟩ 0 u f 0 E0 5 (by decide) _ 16 8 false false ⟨#[117, 105, 110, 116, 56]⟩ rfl ne_uint16 hg Hc (fun _ => own) width_uint16 width_uint8 (.inr (.inl ⟨rfl, by decide⟩))
    · exact there_full ⟨#[117, 105, 110, 116, 49, 54]⟩ 0 u f 0 E0 6 (by decide) _ 16 16 false false ⟨#[117, 105, 110, 116, 49, 54]⟩ rfl ne_uint16 hg Hc (fun _ => own) width_uint16 width_uint16 (fun _ => ci_uint16_uint16 u f r1 r2 (by omega) (by omega)) (fun _ => ci_uint16_uint16 u 0 (by omega) (by omega) r1 r2) rfl (by decide) rfl
    · exact there_full ⟨#[117, 105, 110, 116, 49, 54]⟩ 0 u f 0 E0 7 (by decide) _ 16 32 false false ⟨#[117, 105, 110, 116, 51, 50]⟩ rfl ne_uint16 hg Hc (fun _ => own) width_uint16 width_uint32 (fun _ => ci_uint16_uint32 u f r1 r2 (by omega) (by omega)) (fun _ => ci_uint32_uint16 u 0 (by omega) (by omega) r1 r2) rfl (by decide) rfl
    · exact there_full ⟨#[117, 105, 110, 116, 49, 54]⟩ 0 u f 0 E0 8 (by decide) _ 16 64 false false ⟨#[117, 105, 110, 116, 54, 52]⟩ rfl ne_uint16 hg Hc (fun _ => own) width_uint16 width_uint64 (fun _ => ci_uint16_uint64 u f r1 r2 (by omega) (by omega)) (fun _ => ci_uint64_uint16 u 0 (by omega) (by omega) r1 r2) rfl (by decide) rfl
    · exact there_narrow ⟨#[117, 105, 110, 116, 49, 54]⟩ 0 u f 0 E0 9 (by decide) _ 16 0 false false ⟨#[102, 108, 111, 97, 116, 51, 50]⟩ rfl ne_uint16 hg Hc (fun _ => own) width_uint16 width_float32 (.inr (.inl ⟨rfl, by decide⟩))
    · exact there_narrow ⟨#[117, 105, 110, 116, 49, 54]⟩ 0 u f 0 E0 10 (by decide) _ 16 0 false false ⟨#[102, 108, 111, 97, 116, 54, 52]⟩ rfl ne_uint16 hg Hc (fun _ => own) width_uint16 width_float64 (.inr (.inl ⟨rfl, by decide⟩))
    · exact there_narrow ⟨#[117, 105, 110, 116, 49, 54]⟩ 0 u f 0 E0 11 (by decide) _ 16 0 false false ⟨#[115, 116, 114, 105, 110, 103]⟩ rfl ne_uint16 hg Hc (fun _ => own) width_uint16 width_string (.inr (.inl ⟨rfl, by decide⟩))
    · exact there_narrow ⟨#[117, 105, 110, 116, 49, 54]⟩ 0 u f 0 E0 12 (by decide) _ 16 0 false false ⟨#[98, 108, 111, 98]⟩ rfl ne_uint16 hg Hc (fun _ => own) width_uint16 width_blob (.inr (.inl ⟨rfl, by decide⟩))
  · exact there_early ⟨#[117, 105, 110, 116, 49, 54]⟩ n u f s k _ Hc (.inr (.inr (.inr hp)))
set_option maxRecDepth 100000 in
set_option maxHeartbeats 1000000 in
theorem there_at_uint32 (n u : Int) (f : Nat) (s : ByteArray) (hu0 : 0 ≤ u) (hu1 : u < 18446744073709551616) (k : Nat) (hk : k < 13) : Gives 5 #[V ⟨#[117, 105, 110, 116, 51, 50]⟩ n u f s, .int .i64 k] (.bool true) := by
  have Hc := concrete_uint32 n u f s
  by_cases hp : (n = 0 ∧ bitsF f = 0 ∧ s = E0 ∧ u / 4294967296 = 0) ∧ (FloatKind.f64.format.order f f == some .eq) = true
  · obtain ⟨⟨rfl, hb, rfl, hr⟩, ho⟩ := hp
    have r1 : 0 ≤ u := by omega
    have r2 : u ≤ 4294967295 := by omega
    have hg : bitsF 0 = bitsF f := by rw [hb, bf0]
    have own := ci_uint32_uint32 u f r1 r2 r1 r2
    have hk' : k = 0 ∨ k = 1 ∨ k = 2 ∨ k = 3 ∨ k = 4 ∨ k = 5 ∨ k = 6 ∨ k = 7 ∨ k = 8 ∨ k = 9 ∨ k = 10 ∨ k = 11 ∨ k = 12 := by omega
    rcases hk' with rfl | rfl | rfl | rfl | rfl | rfl | rfl | rfl | rfl | rfl | rfl | rfl | rfl
    · exact there_narrow ⟨#[117, 105, 110, 116, 51, 50]⟩ 0 u f 0 E0 0 (by decide) _ 32 0 false false ⟨#[98, 111, 111, 108]⟩ rfl ne_uint32 hg Hc (fun _ => own) width_uint32 width_bool (.inr (.inl ⟨rfl, by decide⟩))
    · exact there_narrow ⟨#[117, 105, 110, 116, 51, 50]⟩ 0 u f 0 E0 1 (by decide) _ 32 8 false true ⟨#[105, 110, 116, 56]⟩ rfl ne_uint32 hg Hc (fun _ => own) width_uint32 width_int8 (.inr (.inl ⟨rfl, by decide⟩))
    · exact there_narrow ⟨#[117, 105, 110, 116, 51, 50]⟩ 0 u f 0 E0 2 (by decide) _ 32 16 false true ⟨#[105, 110, 116, 49, 54]⟩ rfl ne_uint32 hg Hc (fun _ => own) width_uint32 width_int16 (.inr (.inl ⟨rfl, by decide⟩))
    · exact there_narrow ⟨#[117, 105, 110, 116, 51, 50]⟩ 0 u f 0 E0 3 (by decide) _ 32 32 false true ⟨#[105, 110, 116, 51, 50]⟩ rfl ne_uint32 hg Hc (fun _ => own) width_uint32 width_int32 (.inr (.inr ⟨rfl, by decide, rfl⟩))
    · exact there_narrow ⟨#[117, 105, 110, 116, 51, 50]⟩ 0 u f 0 E0 4 (by decide) _ 32 64 false true ⟨#[105, 110, 116, 54, 52]⟩ rfl ne_uint32 hg Hc (fun _ => own) width_uint32 width_int64 (.inr (.inr ⟨rfl, by decide, rfl⟩))
    · exact there_narrow ⟨#[117, 105, 110, 116, 51, 50]⟩ 0 u f 0 E0 5 (by decide) _ 32 8 false false ⟨#[117, 105, 110, 116, 56]⟩ rfl ne_uint32 hg Hc (fun _ => own) width_uint32 width_uint8 (.inr (.inl ⟨rfl, by decide⟩))
    · exact there_narrow ⟨#[117, 105, 110, 116, 51, 50]⟩ 0 u f 0 E0 6 (by decide) _ 32 16 false false ⟨#[117, 105, 110, 116, 49, 54]⟩ rfl ne_uint32 hg Hc (fun _ => own) width_uint32 width_uint16 (.inr (.inl ⟨rfl, by decide⟩))
    · exact there_full ⟨#[117, 105, 110, 116, 51, 50]⟩ 0 u f 0 E0 7 (by decide) _ 32 32 false false ⟨#[117, 105, 110, 116, 51, 50]⟩ rfl ne_uint32 hg Hc (fun _ => own) width_uint32 width_uint32 (fun _ => ci_uint32_uint32 u f r1 r2 (by omega) (by omega)) (fun _ => ci_uint32_uint32 u 0 (by omega) (by omega) r1 r2) rfl (by decide) rfl
    · exact there_full ⟨#[117, 105, 110, 116, 51, 50]⟩ 0 u f 0 E0 8 (by decide) _ 32 64 false false ⟨#[117, 105, 110, 116, 54, 52]⟩ rfl ne_uint32 hg Hc (fun _ => own) width_uint32 width_uint64 (fun _ => ci_uint32_uint64 u f r1 r2 (by omega) (by omega)) (fun _ => ci_uint64_uint32 u 0 (by omega) (by omega) r1 r2) rfl (by decide) rfl
    · exact there_narrow ⟨#[117, 105, 110, 116, 51, 50]⟩ 0 u f 0 E0 9 (by decide) _ 32 0 false false ⟨#[102, 108, 111, 97, 116, 51, 50]⟩ rfl ne_uint32 hg Hc (fun _ => own) width_uint32 width_float32 (.inr (.inl ⟨rfl, by decide⟩))
    · exact there_narrow ⟨#[117, 105, 110, 116, 51, 50]⟩ 0 u f 0 E0 10 (by decide) _ 32 0 false false ⟨#[102, 108, 111, 97, 116, 54, 52]⟩ rfl ne_uint32 hg Hc (fun _ => own) width_uint32 width_float64 (.inr (.inl ⟨rfl, by decide⟩))
    · exact there_narrow ⟨#[117, 105, 110, 116, 51, 50]⟩ 0 u f 0 E0 11 (by decide) _ 32 0 false false ⟨#[115, 116, 114, 105, 110, 103]⟩ rfl ne_uint32 hg Hc (fun _ => own) width_uint32 width_string (.inr (.inl ⟨rfl, by decide⟩))
    · exact there_narrow ⟨#[117, 105, 110, 116, 51, 50]⟩ 0 u f 0 E0 12 (by decide) _ 32 0 false false ⟨#[98, 108, 111, 98]⟩ rfl ne_uint32 hg Hc (fun _ => own) width_uint32 width_blob (.inr (.inl ⟨rfl, by decide⟩))
  · exact there_early ⟨#[117, 105, 110, 116, 51, 50]⟩ n u f s k _ Hc (.inr (.inr (.inr hp)))
set_option maxRecDepth 100000 in
set_option maxHeartbeats 1000000 in
theorem there_at_uint64 (n u : Int) (f : Nat) (s : ByteArray) (hu0 : 0 ≤ u) (hu1 : u < 18446744073709551616) (k : Nat) (hk : k < 13) : Gives 5 #[V ⟨#[117, 105, 110, 116, 54, 52]⟩ n u f s, .int .i64 k] (.bool true) := by
  have Hc := concrete_uint64 n u f s
  by_cases hp : (n = 0 ∧ bitsF f = 0 ∧ s = E0) ∧ (FloatKind.f64.format.order f f == some .eq) = true
  · obtain ⟨⟨rfl, hb, rfl⟩, ho⟩ := hp
    have r1 : 0 ≤ u := by omega
    have r2 : u ≤ 18446744073709551615 := by omega
    have hg : bitsF 0 = bitsF f := by rw [hb, bf0]
    have own := ci_uint64_uint64 u f r1 r2 r1 r2
    have hk' : k = 0 ∨ k = 1 ∨ k = 2 ∨ k = 3 ∨ k = 4 ∨ k = 5 ∨ k = 6 ∨ k = 7 ∨ k = 8 ∨ k = 9 ∨ k = 10 ∨ k = 11 ∨ k = 12 := by omega
    rcases hk' with rfl | rfl | rfl | rfl | rfl | rfl | rfl | rfl | rfl | rfl | rfl | rfl | rfl
    · exact there_narrow ⟨#[117, 105, 110, 116, 54, 52]⟩ 0 u f 0 E0 0 (by decide) _ 64 0 false false ⟨#[98, 111, 111, 108]⟩ rfl ne_uint64 hg Hc (fun _ => own) width_uint64 width_bool (.inr (.inl ⟨rfl, by decide⟩))
    · exact there_narrow ⟨#[117, 105, 110, 116, 54, 52]⟩ 0 u f 0 E0 1 (by decide) _ 64 8 false true ⟨#[105, 110, 116, 56]⟩ rfl ne_uint64 hg Hc (fun _ => own) width_uint64 width_int8 (.inr (.inl ⟨rfl, by decide⟩))
    · exact there_narrow ⟨#[117, 105, 110, 116, 54, 52]⟩ 0 u f 0 E0 2 (by decide) _ 64 16 false true ⟨#[105, 110, 116, 49, 54]⟩ rfl ne_uint64 hg Hc (fun _ => own) width_uint64 width_int16 (.inr (.inl ⟨rfl, by decide⟩))
    · exact there_narrow ⟨#[117, 105, 110, 116, 54, 52]⟩ 0 u f 0 E0 3 (by decide) _ 64 32 false true ⟨#[105, 110, 116, 51, 50]⟩ rfl ne_uint64 hg Hc (fun _ => own) width_uint64 width_int32 (.inr (.inl ⟨rfl, by decide⟩))
    · exact there_narrow ⟨#[117, 105, 110, 116, 54, 52]⟩ 0 u f 0 E0 4 (by decide) _ 64 64 false true ⟨#[105, 110, 116, 54, 52]⟩ rfl ne_uint64 hg Hc (fun _ => own) width_uint64 width_int64 (.inr (.inr ⟨rfl, by decide, rfl⟩))
    · exact there_narrow ⟨#[117, 105, 110, 116, 54, 52]⟩ 0 u f 0 E0 5 (by decide) _ 64 8 false false ⟨#[117, 105, 110, 116, 56]⟩ rfl ne_uint64 hg Hc (fun _ => own) width_uint64 width_uint8 (.inr (.inl ⟨rfl, by decide⟩))
    · exact there_narrow ⟨#[117, 105, 110, 116, 54, 52]⟩ 0 u f 0 E0 6 (by decide) _ 64 16 false false ⟨#[117, 105, 110, 116, 49, 54]⟩ rfl ne_uint64 hg Hc (fun _ => own) width_uint64 width_uint16 (.inr (.inl ⟨rfl, by decide⟩))
    · exact there_narrow ⟨#[117, 105, 110, 116, 54, 52]⟩ 0 u f 0 E0 7 (by decide) _ 64 32 false false ⟨#[117, 105, 110, 116, 51, 50]⟩ rfl ne_uint64 hg Hc (fun _ => own) width_uint64 width_uint32 (.inr (.inl ⟨rfl, by decide⟩))
    · exact there_full ⟨#[117, 105, 110, 116, 54, 52]⟩ 0 u f 0 E0 8 (by decide) _ 64 64 false false ⟨#[117, 105, 110, 116, 54, 52]⟩ rfl ne_uint64 hg Hc (fun _ => own) width_uint64 width_uint64 (fun _ => ci_uint64_uint64 u f r1 r2 (by omega) (by omega)) (fun _ => ci_uint64_uint64 u 0 (by omega) (by omega) r1 r2) rfl (by decide) rfl
    · exact there_narrow ⟨#[117, 105, 110, 116, 54, 52]⟩ 0 u f 0 E0 9 (by decide) _ 64 0 false false ⟨#[102, 108, 111, 97, 116, 51, 50]⟩ rfl ne_uint64 hg Hc (fun _ => own) width_uint64 width_float32 (.inr (.inl ⟨rfl, by decide⟩))
    · exact there_narrow ⟨#[117, 105, 110, 116, 54, 52]⟩ 0 u f 0 E0 10 (by decide) _ 64 0 false false ⟨#[102, 108, 111, 97, 116, 54, 52]⟩ rfl ne_uint64 hg Hc (fun _ => own) width_uint64 width_float64 (.inr (.inl ⟨rfl, by decide⟩))
    · exact there_narrow ⟨#[117, 105, 110, 116, 54, 52]⟩ 0 u f 0 E0 11 (by decide) _ 64 0 false false ⟨#[115, 116, 114, 105, 110, 103]⟩ rfl ne_uint64 hg Hc (fun _ => own) width_uint64 width_string (.inr (.inl ⟨rfl, by decide⟩))
    · exact there_narrow ⟨#[117, 105, 110, 116, 54, 52]⟩ 0 u f 0 E0 12 (by decide) _ 64 0 false false ⟨#[98, 108, 111, 98]⟩ rfl ne_uint64 hg Hc (fun _ => own) width_uint64 width_blob (.inr (.inl ⟨rfl, by decide⟩))
  · exact there_early ⟨#[117, 105, 110, 116, 54, 52]⟩ n u f s k _ Hc (.inr (.inr (.inr hp)))
set_option maxRecDepth 100000 in
set_option maxHeartbeats 1000000 in
theorem there_at_float32 (n u : Int) (f : Nat) (s : ByteArray) (k : Nat) (hk : k < 13) : Gives 5 #[V ⟨#[102, 108, 111, 97, 116, 51, 50]⟩ n u f s, .int .i64 k] (.bool true) := by
  have Hc := concrete_float32 n u f s
  by_cases hp : (n = 0 ∧ u = 0 ∧ s = E0 ∧ ∃ w1 w2, bitsF (widV (narV f w1) w2) = bitsF f) ∧ (FloatKind.f64.format.order f f == some .eq) = true
  · obtain ⟨⟨rfl, rfl, rfl, hw⟩, ho⟩ := hp
    obtain ⟨r, hr⟩ := settles f ho hw
    have hg : bitsF f = bitsF f := rfl
    have own := cvt _ _ _ _ _ _ _ _ 102 _ _ _ _ _ rfl (in_float32 0 0 f r hr E0) ztype_float32 (Still.gives (cv_f32_f32 r)) (out_float32 f r hr)
    have hk' : k = 0 ∨ k = 1 ∨ k = 2 ∨ k = 3 ∨ k = 4 ∨ k = 5 ∨ k = 6 ∨ k = 7 ∨ k = 8 ∨ k = 9 ∨ k = 10 ∨ k = 11 ∨ k = 12 := by omega
    rcases hk' with rfl | rfl | rfl | rfl | rfl | rfl | rfl | rfl | rfl | rfl | rfl | rfl | rfl
    · exact there_narrow ⟨#[102, 108, 111, 97, 116, 51, 50]⟩ 0 0 f f E0 0 (by decide) _ 0 0 false false ⟨#[98, 111, 111, 108]⟩ rfl ne_float32 hg Hc (fun _ => own) width_float32 width_bool (.inl rfl)
    · exact there_narrow ⟨#[102, 108, 111, 97, 116, 51, 50]⟩ 0 0 f f E0 1 (by decide) _ 0 8 false true ⟨#[105, 110, 116, 56]⟩ rfl ne_float32 hg Hc (fun _ => own) width_float32 width_int8 (.inl rfl)
    · exact there_narrow ⟨#[102, 108, 111, 97, 116, 51, 50]⟩ 0 0 f f E0 2 (by decide) _ 0 16 false true ⟨#[105, 110, 116, 49, 54]⟩ rfl ne_float32 hg Hc (fun _ => own) width_float32 width_int16 (.inl rfl)
    · exact there_narrow ⟨#[102, 108, 111, 97, 116, 51, 50]⟩ 0 0 f f E0 3 (by decide) _ 0 32 false true ⟨#[105, 110, 116, 51, 50]⟩ rfl ne_float32 hg Hc (fun _ => own) width_float32 width_int32 (.inl rfl)
    · exact there_narrow ⟨#[102, 108, 111, 97, 116, 51, 50]⟩ 0 0 f f E0 4 (by decide) _ 0 64 false true ⟨#[105, 110, 116, 54, 52]⟩ rfl ne_float32 hg Hc (fun _ => own) width_float32 width_int64 (.inl rfl)
    · exact there_narrow ⟨#[102, 108, 111, 97, 116, 51, 50]⟩ 0 0 f f E0 5 (by decide) _ 0 8 false false ⟨#[117, 105, 110, 116, 56]⟩ rfl ne_float32 hg Hc (fun _ => own) width_float32 width_uint8 (.inl rfl)
    · exact there_narrow ⟨#[102, 108, 111, 97, 116, 51, 50]⟩ 0 0 f f E0 6 (by decide) _ 0 16 false false ⟨#[117, 105, 110, 116, 49, 54]⟩ rfl ne_float32 hg Hc (fun _ => own) width_float32 width_uint16 (.inl rfl)
    · exact there_narrow ⟨#[102, 108, 111, 97, 116, 51, 50]⟩ 0 0 f f E0 7 (by decide) _ 0 32 false false ⟨#[117, 105, 110, 116, 51, 50]⟩ rfl ne_float32 hg Hc (fun _ => own) width_float32 width_uint32 (.inl rfl)
    · exact there_narrow ⟨#[102, 108, 111, 97, 116, 51, 50]⟩ 0 0 f f E0 8 (by decide) _ 0 64 false false ⟨#[117, 105, 110, 116, 54, 52]⟩ rfl ne_float32 hg Hc (fun _ => own) width_float32 width_uint64 (.inl rfl)
    · exact there_narrow ⟨#[102, 108, 111, 97, 116, 51, 50]⟩ 0 0 f f E0 9 (by decide) _ 0 0 false false ⟨#[102, 108, 111, 97, 116, 51, 50]⟩ rfl ne_float32 hg Hc (fun _ => own) width_float32 width_float32 (.inl rfl)
    · exact there_narrow ⟨#[102, 108, 111, 97, 116, 51, 50]⟩ 0 0 f f E0 10 (by decide) _ 0 0 false false ⟨#[102, 108, 111, 97, 116, 54, 52]⟩ rfl ne_float32 hg Hc (fun _ => own) width_float32 width_float64 (.inl rfl)
    · exact there_narrow ⟨#[102, 108, 111, 97, 116, 51, 50]⟩ 0 0 f f E0 11 (by decide) _ 0 0 false false ⟨#[115, 116, 114, 105, 110, 103]⟩ rfl ne_float32 hg Hc (fun _ => own) width_float32 width_string (.inl rfl)
    · exact there_narrow ⟨#[102, 108, 111, 97, 116, 51, 50]⟩ 0 0 f f E0 12 (by decide) _ 0 0 false false ⟨#[98, 108, 111, 98]⟩ rfl ne_float32 hg Hc (fun _ => own) width_float32 width_blob (.inl rfl)
  · exact there_early ⟨#[102, 108, 111, 97, 116, 51, 50]⟩ n u f s k _ Hc (.inr (.inr (.inr hp)))
set_option maxRecDepth 100000 in
set_option maxHeartbeats 1000000 in
theorem there_at_float64 (n u : Int) (f : Nat) (s : ByteArray) (k : Nat) (hk : k < 13) : Gives 5 #[V ⟨#[102, 108, 111, 97, 116, 54, 52]⟩ n u f s, .int .i64 k] (.bool true) := by
  have Hc := concrete_float64 n u f s
  by_cases hp : (n = 0 ∧ u = 0 ∧ s = E0) ∧ (FloatKind.f64.format.order f f == some .eq) = true
  · obtain ⟨⟨rfl, rfl, rfl⟩, ho⟩ := hp
    have hg : bitsF f = bitsF f := rfl
    have own := cvt _ _ _ _ _ _ _ _ 103 _ _ _ _ _ rfl (in_float64 0 0 f E0) ztype_float64 (Still.gives (cv_f64_f64 f)) (out_float64 f)
    have hk' : k = 0 ∨ k = 1 ∨ k = 2 ∨ k = 3 ∨ k = 4 ∨ k = 5 ∨ k = 6 ∨ k = 7 ∨ k = 8 ∨ k = 9 ∨ k = 10 ∨ k = 11 ∨ k = 12 := by omega
    rcases hk' with rfl | rfl | rfl | rfl | rfl | rfl | rfl | rfl | rfl | rfl | rfl | rfl | rfl
    · exact there_narrow ⟨#[102, 108, 111, 97, 116, 54, 52]⟩ 0 0 f f E0 0 (by decide) _ 0 0 false false ⟨#[98, 111, 111, 108]⟩ rfl ne_float64 hg Hc (fun _ => own) width_float64 width_bool (.inl rfl)
    · exact there_narrow ⟨#[102, 108, 111, 97, 116, 54, 52]⟩ 0 0 f f E0 1 (by decide) _ 0 8 false true ⟨#[105, 110, 116, 56]⟩ rfl ne_float64 hg Hc (fun _ => own) width_float64 width_int8 (.inl rfl)
    · exact there_narrow ⟨#[102, 108, 111, 97, 116, 54, 52]⟩ 0 0 f f E0 2 (by decide) _ 0 16 false true ⟨#[105, 110, 116, 49, 54]⟩ rfl ne_float64 hg Hc (fun _ => own) width_float64 width_int16 (.inl rfl)
    · exact there_narrow ⟨#[102, 108, 111, 97, 116, 54, 52]⟩ 0 0 f f E0 3 (by decide) _ 0 32 false true ⟨#[105, 110, 116, 51, 50]⟩ rfl ne_float64 hg Hc (fun _ => own) width_float64 width_int32 (.inl rfl)
    · exact there_narrow ⟨#[102, 108, 111, 97, 116, 54, 52]⟩ 0 0 f f E0 4 (by decide) _ 0 64 false true ⟨#[105, 110, 116, 54, 52]⟩ rfl ne_float64 hg Hc (fun _ => own) width_float64 width_int64 (.inl rfl)
    · exact there_narrow ⟨#[102, 108, 111, 97, 116, 54, 52]⟩ 0 0 f f E0 5 (by decide) _ 0 8 false false ⟨#[117, 105, 110, 116, 56]⟩ rfl ne_float64 hg Hc (fun _ => own) width_float64 width_uint8 (.inl rfl)
    · exact there_narrow ⟨#[102, 108, 111, 97, 116, 54, 52]⟩ 0 0 f f E0 6 (by decide) _ 0 16 false false ⟨#[117, 105, 110, 116, 49, 54]⟩ rfl ne_float64 hg Hc (fun _ => own) width_float64 width_uint16 (.inl rfl)
    · exact there_narrow ⟨#[102, 108, 111, 97, 116, 54, 52]⟩ 0 0 f f E0 7 (by decide) _ 0 32 false false ⟨#[117, 105, 110, 116, 51, 50]⟩ rfl ne_float64 hg Hc (fun _ => own) width_float64 width_uint32 (.inl rfl)
    · exact there_narrow ⟨#[102, 108, 111, 97, 116, 54, 52]⟩ 0 0 f f E0 8 (by decide) _ 0 64 false false ⟨#[117, 105, 110, 116, 54, 52]⟩ rfl ne_float64 hg Hc (fun _ => own) width_float64 width_uint64 (.inl rfl)
    · exact there_narrow ⟨#[102, 108, 111, 97, 116, 54, 52]⟩ 0 0 f f E0 9 (by decide) _ 0 0 false false ⟨#[102, 108, 111, 97, 116, 51, 50]⟩ rfl ne_float64 hg Hc (fun _ => own) width_float64 width_float32 (.inl rfl)
    · exact there_narrow ⟨#[102, 108, 111, 97, 116, 54, 52]⟩ 0 0 f f E0 10 (by decide) _ 0 0 false false ⟨#[102, 108, 111, 97, 116, 54, 52]⟩ rfl ne_float64 hg Hc (fun _ => own) width_float64 width_float64 (.inl rfl)
    · exact there_narrow ⟨#[102, 108, 111, 97, 116, 54, 52]⟩ 0 0 f f E0 11 (by decide) _ 0 0 false false ⟨#[115, 116, 114, 105, 110, 103]⟩ rfl ne_float64 hg Hc (fun _ => own) width_float64 width_string (.inl rfl)
    · exact there_narrow ⟨#[102, 108, 111, 97, 116, 54, 52]⟩ 0 0 f f E0 12 (by decide) _ 0 0 false false ⟨#[98, 108, 111, 98]⟩ rfl ne_float64 hg Hc (fun _ => own) width_float64 width_blob (.inl rfl)
  · exact there_early ⟨#[102, 108, 111, 97, 116, 54, 52]⟩ n u f s k _ Hc (.inr (.inr (.inr hp)))
set_option maxRecDepth 100000 in
set_option maxHeartbeats 1000000 in
theorem there_at_string (n u : Int) (f : Nat) (s : ByteArray) (k : Nat) (hk : k < 13) : Gives 5 #[V ⟨#[115, 116, 114, 105, 110, 103]⟩ n u f s, .int .i64 k] (.bool true) := by
  have Hc := concrete_string n u f s
  by_cases hp : (n = 0 ∧ u = 0 ∧ bitsF f = 0 ∧ s.size ≤ 65536) ∧ (FloatKind.f64.format.order f f == some .eq) = true
  · obtain ⟨⟨rfl, rfl, hb, hs⟩, ho⟩ := hp
    have hg : bitsF 0 = bitsF f := by rw [hb, bf0]
    have own := cvt _ _ _ _ _ _ _ _ 115 _ _ _ _ _ rfl (in_string 0 0 f s) ztype_string (Still.gives (cv_string_string s)) (out_string s)
    have hk' : k = 0 ∨ k = 1 ∨ k = 2 ∨ k = 3 ∨ k = 4 ∨ k = 5 ∨ k = 6 ∨ k = 7 ∨ k = 8 ∨ k = 9 ∨ k = 10 ∨ k = 11 ∨ k = 12 := by omega
    rcases hk' with rfl | rfl | rfl | rfl | rfl | rfl | rfl | rfl | rfl | rfl | rfl | rfl | rfl
    · exact there_narrow ⟨#[115, 116, 114, 105, 110, 103]⟩ 0 0 f 0 s 0 (by decide) _ 0 0 false false ⟨#[98, 111, 111, 108]⟩ rfl ne_string hg Hc (fun _ => own) width_string width_bool (.inl rfl)
    · exact there_narrow ⟨#[115, 116, 114, 105, 110, 103]⟩ 0 0 f 0 s 1 (by decide) _ 0 8 false true ⟨#[105, 110, 116, 56]⟩ rfl ne_string hg Hc (fun _ => own) width_string width_int8 (.inl rfl)
    · exact there_narrow ⟨#[115, 116, 114, 105, 110, 103]⟩ 0 0 f 0 s 2 (by decide) _ 0 16 false true ⟨#[105, 110, 116, 49, 54]⟩ rfl ne_string hg Hc (fun _ => own) width_string width_int16 (.inl rfl)
    · exact there_narrow ⟨#[115, 116, 114, 105, 110, 103]⟩ 0 0 f 0 s 3 (by decide) _ 0 32 false true ⟨#[105, 110, 116, 51, 50]⟩ rfl ne_string hg Hc (fun _ => own) width_string width_int32 (.inl rfl)
    · exact there_narrow ⟨#[115, 116, 114, 105, 110, 103]⟩ 0 0 f 0 s 4 (by decide) _ 0 64 false true ⟨#[105, 110, 116, 54, 52]⟩ rfl ne_string hg Hc (fun _ => own) width_string width_int64 (.inl rfl)
    · exact there_narrow ⟨#[115, 116, 114, 105, 110, 103]⟩ 0 0 f 0 s 5 (by decide) _ 0 8 false false ⟨#[117, 105, 110, 116, 56]⟩ rfl ne_string hg Hc (fun _ => own) width_string width_uint8 (.inl rfl)
    · exact there_narrow ⟨#[115, 116, 114, 105, 110, 103]⟩ 0 0 f 0 s 6 (by decide) _ 0 16 false false ⟨#[117, 105, 110, 116, 49, 54]⟩ rfl ne_string hg Hc (fun _ => own) width_string width_uint16 (.inl rfl)
    · exact there_narrow ⟨#[115, 116, 114, 105, 110, 103]⟩ 0 0 f 0 s 7 (by decide) _ 0 32 false false ⟨#[117, 105, 110, 116, 51, 50]⟩ rfl ne_string hg Hc (fun _ => own) width_string width_uint32 (.inl rfl)
    · exact there_narrow ⟨#[115, 116, 114, 105, 110, 103]⟩ 0 0 f 0 s 8 (by decide) _ 0 64 false false ⟨#[117, 105, 110, 116, 54, 52]⟩ rfl ne_string hg Hc (fun _ => own) width_string width_uint64 (.inl rfl)
    · exact there_narrow ⟨#[115, 116, 114, 105, 110, 103]⟩ 0 0 f 0 s 9 (by decide) _ 0 0 false false ⟨#[102, 108, 111, 97, 116, 51, 50]⟩ rfl ne_string hg Hc (fun _ => own) width_string width_float32 (.inl rfl)
    · exact there_narrow ⟨#[115, 116, 114, 105, 110, 103]⟩ 0 0 f 0 s 10 (by decide) _ 0 0 false false ⟨#[102, 108, 111, 97, 116, 54, 52]⟩ rfl ne_string hg Hc (fun _ => own) width_string width_float64 (.inl rfl)
    · exact there_narrow ⟨#[115, 116, 114, 105, 110, 103]⟩ 0 0 f 0 s 11 (by decide) _ 0 0 false false ⟨#[115, 116, 114, 105, 110, 103]⟩ rfl ne_string hg Hc (fun _ => own) width_string width_string (.inl rfl)
    · exact there_narrow ⟨#[115, 116, 114, 105, 110, 103]⟩ 0 0 f 0 s 12 (by decide) _ 0 0 false false ⟨#[98, 108, 111, 98]⟩ rfl ne_string hg Hc (fun _ => own) width_string width_blob (.inl rfl)
  · exact there_early ⟨#[115, 116, 114, 105, 110, 103]⟩ n u f s k _ Hc (.inr (.inr (.inr hp)))
set_option maxRecDepth 100000 in
set_option maxHeartbeats 1000000 in
theorem there_at_blob (n u : Int) (f : Nat) (s : ByteArray) (k : Nat) (hk : k < 13) : Gives 5 #[V ⟨#[98, 108, 111, 98]⟩ n u f s, .int .i64 k] (.bool true) := by
  have Hc := concrete_blob n u f s
  by_cases hp : (n = 0 ∧ u = 0 ∧ bitsF f = 0 ∧ s.size ≤ 65536) ∧ (FloatKind.f64.format.order f f == some .eq) = true
  · obtain ⟨⟨rfl, rfl, hb, hs⟩, ho⟩ := hp
    have hg : bitsF 0 = bitsF f := by rw [hb, bf0]
    have own := convert_blob 0 0 f s
    have hk' : k = 0 ∨ k = 1 ∨ k = 2 ∨ k = 3 ∨ k = 4 ∨ k = 5 ∨ k = 6 ∨ k = 7 ∨ k = 8 ∨ k = 9 ∨ k = 10 ∨ k = 11 ∨ k = 12 := by omega
    rcases hk' with rfl | rfl | rfl | rfl | rfl | rfl | rfl | rfl | rfl | rfl | rfl | rfl | rfl
    · exact there_narrow ⟨#[98, 108, 111, 98]⟩ 0 0 f 0 s 0 (by decide) _ 0 0 false false ⟨#[98, 111, 111, 108]⟩ rfl ne_blob hg Hc (fun _ => own) width_blob width_bool (.inl rfl)
    · exact there_narrow ⟨#[98, 108, 111, 98]⟩ 0 0 f 0 s 1 (by decide) _ 0 8 false true ⟨#[105, 110, 116, 56]⟩ rfl ne_blob hg Hc (fun _ => own) width_blob width_int8 (.inl rfl)
    · exact there_narrow ⟨#[98, 108, 111, 98]⟩ 0 0 f 0 s 2 (by decide) _ 0 16 false true ⟨#[105, 110, 116, 49, 54]⟩ rfl ne_blob hg Hc (fun _ => own) width_blob width_int16 (.inl rfl)
    · exact there_narrow ⟨#[98, 108, 111, 98]⟩ 0 0 f 0 s 3 (by decide) _ 0 32 false true ⟨#[105, 110, 116, 51, 50]⟩ rfl ne_blob hg Hc (fun _ => own) width_blob width_int32 (.inl rfl)
    · exact there_narrow ⟨#[98, 108, 111, 98]⟩ 0 0 f 0 s 4 (by decide) _ 0 64 false true ⟨#[105, 110, 116, 54, 52]⟩ rfl ne_blob hg Hc (fun _ => own) width_blob width_int64 (.inl rfl)
    · exact there_narrow ⟨#[98, 108, 111, 98]⟩ 0 0 f 0 s 5 (by decide) _ 0 8 false false ⟨#[117, 105, 110, 116, 56]⟩ rfl ne_blob hg Hc (fun _ => own) width_blob width_uint8 (.inl rfl)
    · exact there_narrow ⟨#[98, 108, 111, 98]⟩ 0 0 f 0 s 6 (by decide) _ 0 16 false false ⟨#[117, 105, 110, 116, 49, 54]⟩ rfl ne_blob hg Hc (fun _ => own) width_blob width_uint16 (.inl rfl)
    · exact there_narrow ⟨#[98, 108, 111, 98]⟩ 0 0 f 0 s 7 (by decide) _ 0 32 false false ⟨#[117, 105, 110, 116, 51, 50]⟩ rfl ne_blob hg Hc (fun _ => own) width_blob width_uint32 (.inl rfl)
    · exact there_narrow ⟨#[98, 108, 111, 98]⟩ 0 0 f 0 s 8 (by decide) _ 0 64 false false ⟨#[117, 105, 110, 116, 54, 52]⟩ rfl ne_blob hg Hc (fun _ => own) width_blob width_uint64 (.inl rfl)
    · exact there_narrow ⟨#[98, 108, 111, 98]⟩ 0 0 f 0 s 9 (by decide) _ 0 0 false false ⟨#[102, 108, 111, 97, 116, 51, 50]⟩ rfl ne_blob hg Hc (fun _ => own) width_blob width_float32 (.inl rfl)
    · exact there_narrow ⟨#[98, 108, 111, 98]⟩ 0 0 f 0 s 10 (by decide) _ 0 0 false false ⟨#[102, 108, 111, 97, 116, 54, 52]⟩ rfl ne_blob hg Hc (fun _ => own) width_blob width_float64 (.inl rfl)
    · exact there_narrow ⟨#[98, 108, 111, 98]⟩ 0 0 f 0 s 11 (by decide) _ 0 0 false false ⟨#[115, 116, 114, 105, 110, 103]⟩ rfl ne_blob hg Hc (fun _ => own) width_blob width_string (.inl rfl)
    · exact there_narrow ⟨#[98, 108, 111, 98]⟩ 0 0 f 0 s 12 (by decide) _ 0 0 false false ⟨#[98, 108, 111, 98]⟩ rfl ne_blob hg Hc (fun _ => own) width_blob width_blob (.inl rfl)
  · exact there_early ⟨#[98, 108, 111, 98]⟩ n u f s k _ Hc (.inr (.inr (.inr hp)))
theorem there_all (K : ByteArray) (n u : Int) (f : Nat) (s : ByteArray) (kind : Int) (hn0 : -9223372036854775808 ≤ n) (hn1 : n < 9223372036854775808) (hu0 : 0 ≤ u) (hu1 : u < 18446744073709551616) : Gives 5 #[V K n u f s, .int .i64 kind] (.bool true) := by
  by_cases h1 : kind < 0 ∨ 13 ≤ kind
  · have ⟨p, Hc⟩ : ∃ p, GivesSome 8 #[V K n u f s] p := by
      rcases kind_cases K with h | h | h | h | h | h | h | h | h | h | h | h | h | h | h | h | h | h | h
      · exact ⟨_, concrete_un h n u f s⟩
      all_goals subst h
      · exact ⟨_, concrete_null n u f s⟩
      · exact ⟨_, concrete_bool n u f s⟩
      · exact ⟨_, concrete_int8 n u f s⟩
      · exact ⟨_, concrete_int16 n u f s⟩
      · exact ⟨_, concrete_int32 n u f s⟩
      · exact ⟨_, concrete_int64 n u f s⟩
      · exact ⟨_, concrete_uint8 n u f s⟩
      · exact ⟨_, concrete_uint16 n u f s⟩
      · exact ⟨_, concrete_uint32 n u f s⟩
      · exact ⟨_, concrete_uint64 n u f s⟩
      · exact ⟨_, concrete_float32 n u f s⟩
      · exact ⟨_, concrete_float64 n u f s⟩
      · exact ⟨_, concrete_string n u f s⟩
      · exact ⟨_, concrete_blob n u f s⟩
      · exact ⟨_, concrete_idealInt n u f s⟩
      · exact ⟨_, concrete_idealRune n u f s⟩
      · exact ⟨_, concrete_idealUint n u f s⟩
      · exact ⟨_, concrete_idealFloat n u f s⟩
    exact there_early K n u f s kind p Hc (.inr (h1.elim .inl fun h => .inr (.inl h)))
  · obtain ⟨k, rfl⟩ : ∃ k : Nat, kind = k := ⟨kind.toNat, by omega⟩
    have hk : k < 13 := by omega
    rcases kind_cases K with h | h | h | h | h | h | h | h | h | h | h | h | h | h | h | h | h | h | h
    · exact there_early K n u f s k _ (concrete_un h n u f s) (.inr (.inr (.inr id)))
    all_goals subst h
    · exact there_early _ n u f s k _ (concrete_null n u f s) (.inl em_empty)
    · exact there_at_bool n u f s k hk
    · exact there_at_int8 n u f s hn0 hn1 k hk
    · exact there_at_int16 n u f s hn0 hn1 k hk
    · exact there_at_int32 n u f s hn0 hn1 k hk
    · exact there_at_int64 n u f s hn0 hn1 k hk
    · exact there_at_uint8 n u f s hu0 hu1 k hk
    · exact there_at_uint16 n u f s hu0 hu1 k hk
    · exact there_at_uint32 n u f s hu0 hu1 k hk
    · exact there_at_uint64 n u f s hu0 hu1 k hk
    · exact there_at_float32 n u f s k hk
    · exact there_at_float64 n u f s k hk
    · exact there_at_string n u f s k hk
    · exact there_at_blob n u f s k hk
    · exact there_early _ n u f s k _ (concrete_idealInt n u f s) (.inr (.inr (.inr id)))
    · exact there_early _ n u f s k _ (concrete_idealRune n u f s) (.inr (.inr (.inr id)))
    · exact there_early _ n u f s k _ (concrete_idealUint n u f s) (.inr (.inr (.inr id)))
    · exact there_early _ n u f s k _ (concrete_idealFloat n u f s) (.inr (.inr (.inr id)))
end Go.Proofs.YtliopnbkpdfngaaDoor
