/-
  A float64 that survives float32 and back is settled: plain law of the format's words. No condition.
-/
import Derived.Test.YtliopnbkpdfngaaDoorVldG
set_option linter.unusedVariables false
set_option linter.unusedSimpArgs false
namespace Go.Proofs.YtliopnbkpdfngaaDoor
open Go.RowKit
open Ieee
theorem d_sw : double.signWeight = 9223372036854775808 := by decide
theorem d_bi : double.binade = 4503599627370496 := by decide
theorem d_inf : double.infRung = 9218868437227405312 := by decide
theorem d_lp : double.leastPlace = -1074 := by decide
theorem d_fb : double.fractionBits = 52 := rfl
theorem s_sw : single.signWeight = 2147483648 := by decide
theorem s_bi : single.binade = 8388608 := by decide
theorem s_inf : single.infRung = 2139095040 := by decide
theorem s_lp : single.leastPlace = -149 := by decide
theorem s_fb : single.fractionBits = 23 := rfl
theorem word_parts (f : Format) (neg : Bool) (r : Nat) (h : r < f.signWeight) : (f.word neg r / f.signWeight % 2 == 1) = neg ∧ f.word neg r % f.signWeight = r := by
  have hp : 0 < f.signWeight := by omega
  unfold Format.word
  cases neg
  · simp [Nat.div_eq_of_lt h, Nat.mod_eq_of_lt h]
  · simp [Nat.add_div_left _ hp, Nat.div_eq_of_lt h, Nat.mod_eq_of_lt h, Nat.add_mod_left]
theorem read_word_low (f : Format) (neg : Bool) (r : Nat) (h : r < f.signWeight) (h1 : r ≤ f.infRung) : (f.read (f.word neg r)).isNaN = false := by
  obtain ⟨a, b⟩ := word_parts f neg r h
  unfold Format.read
  simp only [a, b]
  split
  · rfl
  · split
    · rfl
    · split
      · rfl
      · omega
theorem read_word_fin (f : Format) (neg : Bool) (r : Nat) (h : r < f.signWeight) (h1 : r < f.infRung) : (f.read (f.word neg r)).isInfinity = false := by
  obtain ⟨a, b⟩ := word_parts f neg r h
  unfold Format.read
  simp only [a, b]
  by_cases c : r < f.binade
  · rw [if_pos c]; rfl
  · rw [if_neg c, if_pos h1]; rfl
theorem write_no_nan (f : Format) (hf : f.infRung < f.signWeight) (d : Datum) (hd : d.isNaN = false) : (f.read (f.write d)).isNaN = false := by
  cases d with
  | number neg mag place =>
    show (f.read (f.nearest neg mag place)).isNaN = false
    unfold Format.nearest
    split
    · exact read_word_low f neg 0 (by omega) (by omega)
    · exact read_word_low f neg _ (by omega) (by omega)
  | infinity neg => exact read_word_low f neg _ hf (Nat.le_refl _)
  | nan neg t => cases hd
/-- the numbers that a float32 is -/
theorem s_read (p : Nat) (s : Bool) (m : Nat) (e : Int) (h : single.read p = .number s m e) : m < 16777216 ∧ -149 ≤ e ∧ e ≤ 104 := by
  unfold Format.read at h
  rw [s_sw, s_bi, s_inf, s_lp] at h
  dsimp only at h
  split at h
  · cases h; omega
  · split at h
    · cases h; omega
    · split at h <;> cases h
theorem shl (m k : Nat) : m <<< k = m * 2 ^ k := Nat.shiftLeft_eq m k
theorem log_le {m : Nat} (h0 : m ≠ 0) (h : m < 16777216) : m.log2 ≤ 23 := by
  have := (Nat.log2_lt h0 (k := 24)).2 (by simpa using h)
  omega
theorem log_sp {m : Nat} (h0 : m ≠ 0) (n : Nat) (hn : m.log2 ≤ n) : 2 ^ n ≤ m * 2 ^ (n - m.log2) ∧ m * 2 ^ (n - m.log2) < 2 ^ (n + 1) := by
  have a := Nat.log2_self_le h0
  have b : m < 2 ^ (m.log2 + 1) := Nat.lt_log2_self
  have hp : 0 < 2 ^ (n - m.log2) := Nat.two_pow_pos _
  constructor
  · calc 2 ^ n = 2 ^ m.log2 * 2 ^ (n - m.log2) := by rw [← Nat.pow_add]; congr 1; omega
      _ ≤ _ := Nat.mul_le_mul_right _ a
  · calc _ < 2 ^ (m.log2 + 1) * 2 ^ (n - m.log2) := Nat.mul_lt_mul_of_pos_right b hp
      _ = _ := by rw [← Nat.pow_add]; congr 1; omega
theorem cut0 (n : Nat) (neg : Bool) : Toward.even.cut neg n 0 = n := by
  unfold Toward.cut
  simp [Nat.mod_one]
theorem d_write (s : Bool) (m : Nat) (e : Int) (h0 : m ≠ 0) (hm : m < 16777216) (h1 : -149 ≤ e) (h2 : e ≤ 104) :
    double.write (.number s m e) = double.word s ((e + m.log2 + 1022).toNat * 4503599627370496 + m * 2 ^ (52 - m.log2)) := by
  have hl := log_le h0 hm
  have hs := log_sp h0 52 (by omega)
  show double.nearest s m e = _
  unfold Format.nearest
  rw [if_neg h0, d_bi, d_inf, d_lp, d_fb]
  dsimp only
  have e1 : max (e + (m.log2 : Int) - ((52 : Nat) : Int)) (-1074) = e + m.log2 - 52 := by omega
  rw [e1]
  have e2 : (e + (m.log2 : Int) - 52 - e).toNat = 0 := by omega
  have e3 : (e - (e + (m.log2 : Int) - 52)).toNat = 52 - m.log2 := by omega
  rw [e2, e3, cut0, shl]
  have e4 : (e + (m.log2 : Int) - 52 - -1074) = e + m.log2 + 1022 := by omega
  rw [e4]
  congr 1
  have : (2 : Nat) ^ (52 + 1) = 9007199254740992 := by decide
  rw [this] at hs
  omega
theorem d_back (s : Bool) (m : Nat) (e : Int) (h0 : m ≠ 0) (hm : m < 16777216) (h1 : -149 ≤ e) (h2 : e ≤ 104) :
    double.read (double.write (.number s m e)) = .number s (m * 2 ^ (52 - m.log2)) (e + m.log2 - 52) := by
  have hl := log_le h0 hm
  have hs := log_sp h0 52 (by omega)
  have t1 : (2 : Nat) ^ (52 + 1) = 9007199254740992 := by decide
  have t2 : (2 : Nat) ^ 52 = 4503599627370496 := by decide
  rw [t1, t2] at hs
  rw [d_write s m e h0 hm h1 h2]
  generalize m * 2 ^ (52 - m.log2) = K at hs ⊢
  generalize hA : (e + (m.log2 : Int) + 1022).toNat = A
  have hA' : (A : Int) = e + m.log2 + 1022 := by omega
  obtain ⟨a, b⟩ := word_parts double s (A * 4503599627370496 + K) (by rw [d_sw]; omega)
  unfold Format.read
  simp only [a, b]
  rw [d_bi, d_inf, d_lp]
  rw [if_neg (by omega), if_pos (by omega)]
  congr 1 <;> omega
theorem d_fin (p : Nat) (s : Bool) (m : Nat) (e : Int) (h : single.read p = .number s m e) : (double.read (double.write (.number s m e))).isInfinity = false := by
  obtain ⟨hm, h1, h2⟩ := s_read p s m e h
  by_cases h0 : m = 0
  · subst h0
    exact read_word_fin double s 0 (by decide) (by decide)
  · rw [d_back s m e h0 hm h1 h2]; rfl
theorem s_fin (p : Nat) (s : Bool) (m : Nat) (e : Int) (h : single.read p = .number s m e) : ∃ s' m' e', double.read (double.write (.number s m e)) = .number s' m' e' ∧ (single.read (single.write (.number s' m' e'))).isInfinity = false := by
  obtain ⟨hm, h1, h2⟩ := s_read p s m e h
  by_cases h0 : m = 0
  · subst h0
    refine ⟨s, 0, -1074, ?_, ?_⟩
    · show double.read (double.word s 0) = _
      obtain ⟨a, b⟩ := word_parts double s 0 (by decide)
      unfold Format.read
      simp only [a, b]
      rw [d_bi, d_lp]
      rfl
    · exact read_word_fin single s 0 (by decide) (by decide)
  · refine ⟨_, _, _, d_back s m e h0 hm h1 h2, ?_⟩
    have hl := log_le h0 hm
    have hs := log_sp h0 52 (by omega)
    have hs3 := log_sp h0 23 hl
    have t1 : (2 : Nat) ^ (52 + 1) = 9007199254740992 := by decide
    have t2 : (2 : Nat) ^ 52 = 4503599627370496 := by decide
    have t3 : (2 : Nat) ^ (23 + 1) = 16777216 := by decide
    have hK : m * 2 ^ (52 - m.log2) = m * 2 ^ (23 - m.log2) * 536870912 := by
      rw [Nat.mul_assoc, show (536870912 : Nat) = 2 ^ 29 from by decide, ← Nat.pow_add]
      congr 2; omega
    rw [t1, t2] at hs
    rw [t3] at hs3
    generalize m * 2 ^ (52 - m.log2) = K at *
    generalize m * 2 ^ (23 - m.log2) = J at *
    have k0 : K ≠ 0 := by omega
    have kl : K.log2 = 52 := (Nat.log2_eq_iff k0).2 (by rw [t1, t2]; omega)
    show (single.read (single.nearest s K (e + m.log2 - 52))).isInfinity = false
    unfold Format.nearest
    rw [if_neg k0, s_bi, s_inf, s_lp, s_fb, kl]
    dsimp only
    generalize m.log2 = L at *
    have hin : ∀ r, r < 2139095040 → (single.read (single.word s (min r 2139095040))).isInfinity = false := fun r hr =>
      read_word_fin single s _ (by rw [s_sw]; omega) (by rw [s_inf]; omega)
    apply hin
    by_cases hc : -149 ≤ e + (L : Int) - 23
    · have e1 : max (e + (L : Int) - 52 + ((52 : Nat) : Int) - ((23 : Nat) : Int)) (-149) = e + L - 23 := by omega
      rw [e1]
      have e2 : (e + (L : Int) - 52 - (e + L - 23)).toNat = 0 := by omega
      have e3 : (e + (L : Int) - 23 - (e + L - 52)).toNat = 29 := by omega
      have e5 : (e + (L : Int) - 23 - -149) = e + L + 126 := by omega
      rw [e2, e3, e5]
      have e4 : Toward.even.cut s (K <<< 0) 29 = J := by
        rw [show K <<< 0 = K from rfl]
        unfold Toward.cut
        rw [kl, show min 29 (52 + 2) = 29 from rfl, show (1 : Nat) <<< 29 = 536870912 from rfl, hK]
        simp
      rw [e4]
      omega
    · have e1 : max (e + (L : Int) - 52 + ((52 : Nat) : Int) - ((23 : Nat) : Int)) (-149) = -149 := by omega
      rw [e1]
      have e2 : (e + (L : Int) - 52 - -149).toNat = 0 := by omega
      have e6 : (-149 - -149 : Int).toNat = 0 := rfl
      rw [e2, e6, Nat.zero_mul, Nat.zero_add, show K <<< 0 = K from rfl]
      unfold Toward.cut
      dsimp only
      generalize hg : (1 : Nat) <<< min (-149 - (e + (L : Int) - 52)).toNat (K.log2 + 2) = g
      have hg1 : 536870912 ≤ g := by
        rw [← hg, shl, Nat.one_mul, show (536870912 : Nat) = 2 ^ 29 from by decide]
        exact Nat.pow_le_pow_right (by decide) (by omega)
      have hd : K / g ≤ K / 536870912 := Nat.div_le_div_left hg1 (by decide)
      have hb := Bool.toNat_le (decide (g < 2 * (K % g)) || (g == 2 * (K % g) && K / g % 2 == 1))
      omega
/-- the narrowed number is widened to what it was -/
def Settled (f r : Nat) : Prop := floatToFloatBits .f64 f .f32 = some r ∧ floatToFloatBits .f32 r .f64 = some f
theorem dec64 (x : Nat) : FloatKind.f64.decode x = double.read x := rfl
theorem dec32 (x : Nat) : FloatKind.f32.decode x = single.read x := rfl
theorem enc64 (x : Datum) : FloatKind.f64.encode x = double.write x := rfl
theorem enc32 (x : Datum) : FloatKind.f32.encode x = single.write x := rfl
theorem ord_nan {x : Nat} (h : (FloatKind.f64.format.order x x == some .eq) = true) : (double.read x).isNaN = false := by
  cases hd : double.read x with
  | nan a b =>
    have : FloatKind.f64.format.order x x = none := by
      show (double.read x).order (double.read x) = none
      rw [hd]; rfl
    rw [this] at h; cases h
  | _ => rfl
theorem wid_none {p : Nat} (h : floatToFloatBits .f32 p .f64 = none) : (single.read p).isNaN = true := by
  unfold floatToFloatBits at h
  rw [if_neg (by decide), dec32] at h
  cases hd : single.read p with
  | nan a b => rfl
  | infinity a => rw [hd] at h; cases h
  | number s m e =>
    rw [hd] at h
    dsimp only at h
    rw [dec64, enc64, d_fin p s m e hd] at h
    cases h
theorem nar_no_nan {f p : Nat} (h : floatToFloatBits .f64 f .f32 = some p) : (single.read p).isNaN = false := by
  unfold floatToFloatBits at h
  rw [if_neg (by decide), dec64] at h
  cases hd : double.read f with
  | nan a b => rw [hd] at h; cases h
  | infinity a => rw [hd] at h; cases h; exact write_no_nan single (by decide) (.infinity a) rfl
  | number s m e =>
    rw [hd] at h
    dsimp only at h
    split at h
    · cases h
    · cases h; exact write_no_nan single (by decide) (.number s m e) rfl
theorem wid_nar {p f : Nat} (h : floatToFloatBits .f32 p .f64 = some f) : ∃ r, floatToFloatBits .f64 f .f32 = some r := by
  unfold floatToFloatBits at h
  rw [if_neg (by decide), dec32] at h
  cases hd : single.read p with
  | nan a b => rw [hd] at h; cases h
  | infinity a =>
    rw [hd] at h
    dsimp only at h
    cases h
    refine ⟨single.write (.infinity a), ?_⟩
    unfold floatToFloatBits
    rw [if_neg (by decide), dec64, enc64]
    cases a <;> kernel_rfl
  | number s m e =>
    rw [hd] at h
    dsimp only at h
    split at h
    · cases h
    · obtain ⟨s', m', e', a, b⟩ := s_fin p s m e hd
      cases h
      refine ⟨single.write (.number s' m' e'), ?_⟩
      unfold floatToFloatBits
      rw [if_neg (by decide), dec64, enc64, a]
      dsimp only
      rw [dec32, enc32, b]
      rfl
theorem nan_word (x y : Nat) (hx : x < 2) (hy : y < 4503599627370495) : (double.read (x * 2 ^ 63 + 0x7ff0000000000000 + 1 + y)).isNaN = true := by
  have e : x * 2 ^ 63 + 0x7ff0000000000000 + 1 + y = double.word (decide (x = 1)) (9218868437227405313 + y) := by
    unfold Format.word
    rw [d_sw]
    have hx' : x = 0 ∨ x = 1 := by omega
    rcases hx' with rfl | rfl
    · simp <;> omega
    · simp <;> omega
  rw [e]
  obtain ⟨a, b⟩ := word_parts double (decide (x = 1)) (9218868437227405313 + y) (by rw [d_sw]; omega)
  unfold Format.read
  simp only [a, b]
  rw [d_bi, d_inf, d_lp]
  rw [if_neg (by omega), if_neg (by omega), if_neg (by omega)]
  rfl
theorem wid_nan_drawn (p : Nat) (w : World) (h : floatToFloatBits .f32 p .f64 = none) : (double.read (widV p w)).isNaN = true := by
  have hn := wid_none h
  unfold widV
  rw [h]
  dsimp only
  have hq : widQ p = .nanConv .f64 p := by
    unfold widQ
    rw [dec32]
    cases hd : single.read p with
    | nan a b => rfl
    | infinity a => rw [hd] at hn; cases hn
    | number s m e => rw [hd] at hn; cases hn
  rw [hq]
  generalize w.tape w.drawn (.nanConv .f64 p) = t
  exact nan_word (t % 2) (t / 2 % (2 ^ 52 - 1)) (Nat.mod_lt _ (by decide)) (Nat.mod_lt _ (by decide))
theorem settles (f : Nat) (hf : (FloatKind.f64.format.order f f == some .eq) = true) (h : ∃ w1 w2, bitsF (widV (narV f w1) w2) = bitsF f) : ∃ r, Settled f r := by
  obtain ⟨w1, w2, h⟩ := h
  have hfb : bitsF f = (f : Int) := by unfold bitsF; rw [if_pos hf]
  rw [hfb] at h
  cases hg : (FloatKind.f64.format.order (widV (narV f w1) w2) (widV (narV f w1) w2) == some .eq)
  · rw [show bitsF (widV (narV f w1) w2) = 1 from by unfold bitsF; rw [hg]; rfl] at h
    have h1 : f = 1 := by omega
    subst h1
    exact ⟨0, by kernel_rfl, by
      exfalso
      have a : narV 1 w1 = 0 := by kernel_rfl
      have b : widV 0 w2 = 0 := by kernel_rfl
      rw [a, b] at hg
      have : (FloatKind.f64.format.order 0 0 == some .eq) = true := by kernel_rfl
      rw [this] at hg
      cases hg⟩
  · rw [show bitsF (widV (narV f w1) w2) = ((widV (narV f w1) w2 : Nat) : Int) from by unfold bitsF; rw [if_pos hg]] at h
    have hwf : widV (narV f w1) w2 = f := by omega
    clear h
    cases hw : floatToFloatBits .f32 (narV f w1) .f64 with
    | none =>
      have := wid_nan_drawn _ w2 hw
      rw [hwf, ord_nan hf] at this
      cases this
    | some q =>
      have hq : q = f := by rw [← hwf]; unfold widV; rw [hw]
      subst hq
      cases hn : floatToFloatBits .f64 q .f32 with
      | none =>
        obtain ⟨r, hr⟩ := wid_nar hw
        rw [hr] at hn
        cases hn
      | some r =>
        have : narV q w1 = r := by unfold narV; rw [hn]
        rw [this] at hw
        exact ⟨r, hn, hw⟩
end Go.Proofs.YtliopnbkpdfngaaDoor
