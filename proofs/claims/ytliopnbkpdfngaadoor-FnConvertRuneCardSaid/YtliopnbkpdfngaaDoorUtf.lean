/-
  laws.utf: a character's bytes are those of the model's own encoding. Condition: the number is a character's.
-/
import Derived.Test.YtliopnbkpdfngaaDoorVal
set_option linter.unusedVariables false
set_option linter.unusedSimpArgs false
namespace Go.Proofs.YtliopnbkpdfngaaDoor
open Go.RowKit
theorem i64_join (i : Nat) (hi : i ≤ 63) (x y : Int) (hx₀ : 0 ≤ x) (hx : x % 2 ^ i = 0) (hx₁ : x < 2 ^ 63) (hy₀ : 0 ≤ y) (hy : y < 2 ^ i) : bits .or .i64 x y = x + y :=
  bits_join .i64 63 (by decide) (fun n h0 h1 => by rw [IntKind.wrap_i64]; omega) i x y hx₀ hx hx₁ hy₀ hy (by
    have : (2 : Int) ^ i ≤ 2 ^ 63 := by exact_mod_cast Nat.pow_le_pow_right (by decide) hi
    omega)
theorem i64_mask6 (x : Int) (h₀ : 0 ≤ x) (h₁ : x < 9223372036854775808) : bits .and .i64 x 63 = x % 64 :=
  bits_mask .i64 63 (by decide) (fun n h0 h1 => by rw [IntKind.wrap_i64]; omega) 6 (by decide) x h₀ (by omega)
theorem or128 (y : Int) (h0 : 0 ≤ y) (h1 : y < 64) : bits .or .i64 128 y = 128 + y := i64_join 6 (by decide) 128 y (by decide) (by decide) (by decide) h0 (by omega)
theorem or192 (y : Int) (h0 : 0 ≤ y) (h1 : y < 32) : bits .or .i64 192 y = 192 + y := i64_join 5 (by decide) 192 y (by decide) (by decide) (by decide) h0 (by omega)
theorem or224 (y : Int) (h0 : 0 ≤ y) (h1 : y < 16) : bits .or .i64 224 y = 224 + y := i64_join 4 (by decide) 224 y (by decide) (by decide) (by decide) h0 (by omega)
theorem or240 (y : Int) (h0 : 0 ≤ y) (h1 : y < 8) : bits .or .i64 240 y = 240 + y := i64_join 3 (by decide) 240 y (by decide) (by decide) (by decide) h0 (by omega)
theorem str1 (w : World) (a : Int) : (convert 43 9 (.slice (some ⟨w.heap.size, 0, none⟩) 1 1)).run Tryd.prog (w.alloc (.cells #[.int .u8 a] 5)) = .ok (.string (strOfNums [a])) (w.alloc (.cells #[.int .u8 a] 5)) :=
  run_convert_bytes_arg _ 43 5 (by kernel_rfl) (by kernel_rfl) w.heap.size 0 1 1 [a] rfl (fun i hi => by
    match i, hi with | 0, _ => simp) 9 (by kernel_rfl)
theorem str2 (w : World) (a b : Int) : (convert 43 9 (.slice (some ⟨w.heap.size, 0, none⟩) 2 2)).run Tryd.prog (w.alloc (.cells #[.int .u8 a, .int .u8 b] 5)) = .ok (.string (strOfNums [a, b])) (w.alloc (.cells #[.int .u8 a, .int .u8 b] 5)) :=
  run_convert_bytes_arg _ 43 5 (by kernel_rfl) (by kernel_rfl) w.heap.size 0 2 2 [a, b] rfl (fun i hi => by
    match i, hi with | 0, _ => simp | 1, _ => simp) 9 (by kernel_rfl)
theorem str3 (w : World) (a b c : Int) : (convert 43 9 (.slice (some ⟨w.heap.size, 0, none⟩) 3 3)).run Tryd.prog (w.alloc (.cells #[.int .u8 a, .int .u8 b, .int .u8 c] 5)) = .ok (.string (strOfNums [a, b, c])) (w.alloc (.cells #[.int .u8 a, .int .u8 b, .int .u8 c] 5)) :=
  run_convert_bytes_arg _ 43 5 (by kernel_rfl) (by kernel_rfl) w.heap.size 0 3 3 [a, b, c] rfl (fun i hi => by
    match i, hi with | 0, _ => simp | 1, _ => simp | 2, _ => simp) 9 (by kernel_rfl)
theorem str4 (w : World) (a b c d : Int) : (convert 43 9 (.slice (some ⟨w.heap.size, 0, none⟩) 4 4)).run Tryd.prog (w.alloc (.cells #[.int .u8 a, .int .u8 b, .int .u8 c, .int .u8 d] 5)) = .ok (.string (strOfNums [a, b, c, d])) (w.alloc (.cells #[.int .u8 a, .int .u8 b, .int .u8 c, .int .u8 d] 5)) :=
  run_convert_bytes_arg _ 43 5 (by kernel_rfl) (by kernel_rfl) w.heap.size 0 4 4 [a, b, c, d] rfl (fun i hi => by
    match i, hi with | 0, _ => simp | 1, _ => simp | 2, _ => simp | 3, _ => simp) 9 (by kernel_rfl)
def U1 (n : Int) : ByteArray := strOfNums [n]
def U2 (n : Int) : ByteArray := strOfNums [192 + n / 64, 128 + n % 64]
def U3 (n : Int) : ByteArray := strOfNums [224 + n / 4096, 128 + n / 64 % 64, 128 + n % 64]
def U4 (n : Int) : ByteArray := strOfNums [240 + n / 262144, 128 + n / 4096 % 64, 128 + n / 64 % 64, 128 + n % 64]
theorem enc1 (n : Int) (h0 : 0 ≤ n) (h1 : n < 128) : Utf8.encode n = U1 n := by
  obtain ⟨m, rfl⟩ := Int.eq_ofNat_of_zero_le h0
  have hv : Utf8.valid (m : Int) = true := by simp [Utf8.valid]; omega
  simp only [Utf8.encode, hv, if_true, Int.toNat_natCast]
  rw [if_pos (by omega)]
  simp [U1, strOfNums]
theorem enc2 (n : Int) (h0 : 128 ≤ n) (h1 : n < 2048) : Utf8.encode n = U2 n := by
  obtain ⟨m, rfl⟩ := Int.eq_ofNat_of_zero_le (show 0 ≤ n by omega)
  have hv : Utf8.valid (m : Int) = true := by simp [Utf8.valid]; omega
  simp only [Utf8.encode, hv, if_true, Int.toNat_natCast]
  rw [if_neg (by omega), if_pos (by omega)]
  have e1 : (192 + (m : Int) / 64).toNat = 192 + m / 64 := by omega
  have e2 : (128 + (m : Int) % 64).toNat = 128 + m % 64 := by omega
  simp [U2, strOfNums, e1, e2]
theorem enc3 (n : Int) (h0 : 2048 ≤ n) (h1 : n < 65536) (hv : Utf8.valid n = true) : Utf8.encode n = U3 n := by
  obtain ⟨m, rfl⟩ := Int.eq_ofNat_of_zero_le (show 0 ≤ n by omega)
  simp only [Utf8.encode, hv, if_true, Int.toNat_natCast]
  rw [if_neg (by omega), if_neg (by omega), if_pos (by omega)]
  have e1 : (224 + (m : Int) / 4096).toNat = 224 + m / 4096 := by omega
  have e2 : (128 + (m : Int) / 64 % 64).toNat = 128 + m / 64 % 64 := by omega
  have e3 : (128 + (m : Int) % 64).toNat = 128 + m % 64 := by omega
  simp [U3, strOfNums, e1, e2, e3]
theorem enc4 (n : Int) (h0 : 65536 ≤ n) (h1 : n ≤ 1114111) : Utf8.encode n = U4 n := by
  obtain ⟨m, rfl⟩ := Int.eq_ofNat_of_zero_le (show 0 ≤ n by omega)
  have hv : Utf8.valid (m : Int) = true := by simp [Utf8.valid]; omega
  simp only [Utf8.encode, hv, if_true, Int.toNat_natCast]
  rw [if_neg (by omega), if_neg (by omega), if_neg (by omega)]
  have e1 : (240 + (m : Int) / 262144).toNat = 240 + m / 262144 := by omega
  have e2 : (128 + (m : Int) / 4096 % 64).toNat = 128 + m / 4096 % 64 := by omega
  have e3 : (128 + (m : Int) / 64 % 64).toNat = 128 + m / 64 % 64 := by omega
  have e4 : (128 + (m : Int) % 64).toNat = 128 + m % 64 := by omega
  simp [U4, strOfNums, e1, e2, e3, e4]
set_option maxRecDepth 100000 in
set_option maxHeartbeats 4000000 in
theorem utf_1 (n : Int) (h0 : 0 ≤ n) (h1 : n < 128) : Gives 12 #[.int .i64 n] (.string (U1 n)) := by
  intro w
  have k1 := @str1
  go_enter Tryd.func12, Tryd.ntmps12
  go_wp2
  go_ret
  exact ⟨rfl, (Below.refl _ _).alloc (Nat.le_refl _) _⟩
set_option maxRecDepth 100000 in
set_option maxHeartbeats 4000000 in
theorem utf_2 (n : Int) (h0 : 128 ≤ n) (h1 : n < 2048) : Gives 12 #[.int .i64 n] (.string (U2 n)) := by
  intro w
  have k2 := @str2
  have q1 := or192 (n / 64) (by omega) (by omega)
  have q2 := i64_mask6 n (by omega) (by omega)
  have q3 := or128 (n % 64) (by omega) (by omega)
  have r1 : 0 ≤ n % 64 := by omega
  have r2 : n % 64 < 64 := by omega
  go_enter Tryd.func12, Tryd.ntmps12
  go_wp2
  go_ret
  exact ⟨rfl, (Below.refl _ _).alloc (Nat.le_refl _) _⟩
set_option maxRecDepth 100000 in
set_option maxHeartbeats 4000000 in
theorem utf_3 (n : Int) (h0 : 2048 ≤ n) (h1 : n < 65536) : Gives 12 #[.int .i64 n] (.string (U3 n)) := by
  intro w
  have k3 := @str3
  have q0 := or224 (n / 4096) (by omega) (by omega)
  have q1 := i64_mask6 (n / 64) (by omega) (by omega)
  have q2 := i64_mask6 n (by omega) (by omega)
  have q3 := or128 (n % 64) (by omega) (by omega)
  have q4 := or128 (n / 64 % 64) (by omega) (by omega)
  go_enter Tryd.func12, Tryd.ntmps12
  go_wp2
  go_ret
  exact ⟨rfl, (Below.refl _ _).alloc (Nat.le_refl _) _⟩
set_option maxRecDepth 100000 in
set_option maxHeartbeats 4000000 in
theorem utf_4 (n : Int) (h0 : 65536 ≤ n) (h1 : n ≤ 1114111) : Gives 12 #[.int .i64 n] (.string (U4 n)) := by
  intro w
  have k4 := @str4
  have q0 := or240 (n / 262144) (by omega) (by omega)
  have q1 := i64_mask6 (n / 64) (by omega) (by omega)
  have q2 := i64_mask6 n (by omega) (by omega)
  have q3 := or128 (n % 64) (by omega) (by omega)
  have q4 := or128 (n / 64 % 64) (by omega) (by omega)
  have q5 := i64_mask6 (n / 4096) (by omega) (by omega)
  have q6 := or128 (n / 4096 % 64) (by omega) (by omega)
  go_enter Tryd.func12, Tryd.ntmps12
  go_wp2
  go_ret
  exact ⟨rfl, (Below.refl _ _).alloc (Nat.le_refl _) _⟩
theorem utf_any (n : Int) (h0 : 0 ≤ n) (h1 : n ≤ 1114111) (hv : Utf8.valid n = true) : Gives 12 #[.int .i64 n] (.string (Utf8.encode n)) := by
  by_cases a : n < 128
  · rw [enc1 n h0 a]; exact utf_1 n h0 a
  · by_cases b : n < 2048
    · rw [enc2 n (by omega) b]; exact utf_2 n (by omega) b
    · by_cases c : n < 65536
      · rw [enc3 n (by omega) c hv]; exact utf_3 n (by omega) c
      · rw [enc4 n (by omega) h1]; exact utf_4 n (by omega) h1
end Go.Proofs.YtliopnbkpdfngaaDoor
