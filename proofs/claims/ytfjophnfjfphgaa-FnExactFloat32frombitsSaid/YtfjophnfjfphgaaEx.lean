/-
  The reference's Value64, Value32, Bits64 and Bits32: for all words, and exactly the words.
-/
import Derived.Test.YtfjophnfjfphgaaVal
namespace Go.Proofs.Ytfjophnfjfphgaa
open Ieee Num Go.RowKit

theorem val_split (r : Nat) (h : 4503599627370496 ≤ r) : val 52 r = (r % 4503599627370496 + 4503599627370496) * 2 ^ (r / 4503599627370496 - 1) := by
  unfold val
  rw [mg_high (fb := 52) h]
  show (4503599627370496 + r % 4503599627370496) * 2 ^ (r / 4503599627370496 - 1) = _
  rw [Nat.add_comm]
theorem val_split32 (r : Nat) (h : 8388608 ≤ r) : val 23 r = (r % 8388608 + 8388608) * 2 ^ (r / 8388608 - 1) := by
  unfold val
  rw [mg_high (fb := 23) h]
  show (8388608 + r % 8388608) * 2 ^ (r / 8388608 - 1) = _
  rw [Nat.add_comm]

theorem value64_fin (b : Nat) (hb : b < 18446744073709551616) (hn : isN b = false) (w : World) :
    Calls Try.prog 28 #[.int .u64 (b : Int), .int .i64 11, .int .i64 52] w fun e w' => e = .returned (.float .f64 b) ∧ Grown w w' := by
  have hN : ¬ 9218868437227405312 < b % 9223372036854775808 := by unfold isN at hn; simpa using hn
  have ha : absW b = b % 9223372036854775808 := rfl
  have hs := wd_self hb
  by_cases h1 : b / 4503599627370496 % 2048 = 2047
  · have := value64_inf b hb h1 (by omega) w
    rw [show (9218868437227405312 : Nat) = absW b by omega, hs] at this
    exact this
  · by_cases h0 : b / 4503599627370496 % 2048 = 0
    · have hv : val 52 (absW b) = b % 4503599627370496 * 2 ^ U64 := by
        rw [val_low (show absW b < 2 ^ 52 by show absW b < 4503599627370496; omega)]
        show absW b = b % 4503599627370496 * 1
        omega
      have := value64_low b (absW b) hb h0 (by omega) hv w
      rw [hs] at this
      exact this
    · have hv : val 52 (absW b) = (b % 4503599627370496 + 4503599627370496) * 2 ^ (b / 4503599627370496 % 2048 - 1) := by
        rw [val_split _ (by omega), show absW b % 4503599627370496 = b % 4503599627370496 by omega, show absW b / 4503599627370496 = b / 4503599627370496 % 2048 by omega]
      have := value64_usual b (absW b) (b / 4503599627370496 % 2048 - 1) hb h0 h1 (by omega) (by omega) hv w
      rw [hs] at this
      exact this

theorem value64_c (b : Nat) (hb : b < 18446744073709551616) (hn : isN b = false) (w : World) :
    Calls Try.prog 23 #[.int .u64 (b : Int)] w fun e w' => e = .returned (.float .f64 b) ∧ Grown w w' := by
  have H := Lib.hid hb
  have HN := Lib.hid hn
  clear hb hn
  go_enter Try.func23, Try.ntmps23
  go_wp2_with fail
  refine (value64_fin b H.out HN.out _).mono ?_
  rintro e w' ⟨rfl, hg⟩
  go_wp2_with fail
  go_ret
  exact ⟨rfl, hg⟩

theorem value64_n (b : Nat) (hn : isN b = true) (w : World) :
    Calls Try.prog 23 #[.int .u64 (b : Int)] w (NanPost w) := by
  have hN : 9218868437227405312 < b % 9223372036854775808 := by unfold isN at hn; simpa using hn
  have H1 : Hid (b / 4503599627370496 % 2048 = 2047) := Lib.hid (by omega)
  have H2 : Hid (¬ b % 4503599627370496 = 0) := Lib.hid (by omega)
  clear hn hN
  go_enter Try.func23, Try.ntmps23
  go_wp2_with fail
  refine (value64_nan b H1.out H2.out _).mono ?_
  rintro e w' ⟨r, hr, hl, rfl, hg⟩
  have HG := Lib.hid hg
  have HR := Lib.hid hr
  have HL := Lib.hid hl
  clear hg hr hl
  go_wp2_with fail
  go_ret
  exact ⟨r, HR.out, HL.out, rfl, HG.out⟩

theorem value32_fin (b : Nat) (hb : b < 4294967296) (hn : isN32 b = false) (w : World) :
    Calls Try.prog 28 #[.int .u64 (b : Int), .int .i64 8, .int .i64 23] w fun e w' => e = .returned (.float .f64 (widW b)) ∧ Grown w w' := by
  have hN : ¬ 2139095040 < b % 2147483648 := by unfold isN32 at hn; simpa using hn
  have hr : rg Ieee.single b = b % 2147483648 := rg32 b
  have hU : U32 = 925 := rfl
  by_cases h1 : b / 8388608 % 256 = 255
  · have := value32_inf b hb h1 (by omega) w
    rw [← sg32 hb, ← wid_inf (by rw [hr, sgl_inf]; omega)] at this
    exact this
  · obtain ⟨k, hk, hv, hw⟩ := wid_rung (b := b) (by rw [hr, sgl_inf]; omega)
    rw [hr, ← hU] at hv
    by_cases h0 : b / 8388608 % 256 = 0
    · have hv2 : val 52 k = b % 8388608 * 2 ^ U32 := by
        rw [hv, val_low (show b % 2147483648 < 2 ^ 23 by show b % 2147483648 < 8388608; omega), show b % 2147483648 = b % 8388608 by omega]
      have := value32_low b k hb h0 hk hv2 w
      rw [← sg32 hb, ← hw] at this
      exact this
    · have hv2 : val 52 k = (b % 8388608 + 8388608) * 2 ^ (b / 8388608 % 256 - 1 + U32) := by
        rw [hv, val_split32 _ (by omega), show b % 2147483648 % 8388608 = b % 8388608 by omega, show b % 2147483648 / 8388608 = b / 8388608 % 256 by omega, Nat.mul_assoc, ← Nat.pow_add]
      have := value32_usual b k (b / 8388608 % 256 - 1 + U32) hb h0 h1 hk (by omega) hv2 w
      rw [← sg32 hb, ← hw] at this
      exact this

theorem value32_c (b : Nat) (hb : b < 4294967296) (hn : isN32 b = false) (w : World) :
    Calls Try.prog 19 #[.int .u32 (b : Int)] w fun e w' => e = .returned (.float .f32 b) ∧ Grown w w' := by
  have hd := fun w => run_convert_float_float (P := Try.prog) w 27 22 .f64 .f32 (widW b) _ (by rw [Try.underlying27]; rfl) Try.underlying22 (narrow_back hb hn)
  have hwr : IntKind.u64.wrap (b : Int) = (b : Int) := by rw [IntKind.wrap_u64]; omega
  have H := Lib.hid hb
  have HN := Lib.hid hn
  clear hb hn
  go_enter Try.func19, Try.ntmps19
  go_wp2_with fail
  refine (value32_fin b H.out HN.out _).mono ?_
  rintro e w' ⟨rfl, hg⟩
  have HG := Lib.hid hg
  clear hg
  go_wp2_with fail
  go_ret
  exact ⟨rfl, HG.out⟩

/-- some NaN of 32 bits comes back -/
def NanPost32 (w : World) (e : Ending) (w' : World) : Prop := ∃ r, isN32 r = true ∧ r < 4294967296 ∧ e = .returned (.float .f32 r) ∧ Grown w w'

theorem value32_n (b : Nat) (hb : b < 4294967296) (hn : isN32 b = true) (w : World) :
    Calls Try.prog 19 #[.int .u32 (b : Int)] w (NanPost32 w) := by
  have hN : 2139095040 < b % 2147483648 := by unfold isN32 at hn; simpa using hn
  have H1 : Hid (b / 8388608 % 256 = 255) := Lib.hid (by omega)
  have H2 : Hid (¬ b % 8388608 = 0) := Lib.hid (by omega)
  have hwr : IntKind.u64.wrap (b : Int) = (b : Int) := by rw [IntKind.wrap_u64]; omega
  clear hn hN hb
  go_enter Try.func19, Try.ntmps19
  go_wp2_with fail
  refine (value32_nan b H1.out H2.out _).mono ?_
  rintro e w' ⟨r, hr, hl, rfl, hg⟩
  have hd := fun w => run_conv_nan32 (P := Try.prog) hr 27 22 (by rw [Try.underlying27]; rfl) Try.underlying22 w
  have HG := Lib.hid hg
  clear hg hr hl
  go_wp2_with fail
  go_ret
  exact ⟨nanD r w', nanD_isN r w', nanD_lt r w', rfl, HG.out.drew⟩

theorem bits64_fin (x : Nat) (hx : x < 18446744073709551616) (hn : isN x = false) (w : World) :
    Calls Try.prog 25 #[.float .f64 x, .int .i64 11, .int .i64 52] w fun e w' => e = .returned (.int .u64 (x : Int)) ∧ Grown w w' := by
  have hN : ¬ 9218868437227405312 < x % 9223372036854775808 := by unfold isN at hn; simpa using hn
  have ha : absW x = x % 9223372036854775808 := rfl
  have hs := (wd_self hx).symm
  have hsw : (if sgW x = true then (9223372036854775808 : Int) else 0) = (x : Int) - (absW x : Int) := by
    unfold sgW
    by_cases h : 9223372036854775808 ≤ x
    · rw [if_pos (by simpa using h)]; omega
    · rw [if_neg (by simpa using h)]; omega
  by_cases h1 : absW x = 9218868437227405312
  · have := bits64_inf x (absW x) (sgW x) hs h1 w
    rw [hsw, show (x : Int) - (absW x : Int) + 9218868437227405312 = (x : Int) by omega] at this
    exact this
  · by_cases h0 : absW x = 0
    · have := bits64_zero x (absW x) (sgW x) hs h0 w
      rw [hsw, show (x : Int) - (absW x : Int) = (x : Int) by omega] at this
      exact this
    · by_cases hl : absW x < 4503599627370496
      · have hv : val 52 (absW x) = absW x * 2 ^ U64 := by
          rw [val_low (show absW x < 2 ^ 52 from hl)]
          show absW x = absW x * 1
          omega
        have := bits64_low x (absW x) (absW x) (sgW x) hs (by omega) (by omega) hl hv w
        rw [hsw, show (x : Int) - (absW x : Int) + (absW x : Int) = (x : Int) by omega] at this
        exact this
      · have hv := val_split (absW x) (by omega)
        have := bits64_usual x (absW x) _ _ (absW x / 4503599627370496) (sgW x) hs (by omega) (by omega) (by omega) hv (by omega) (by omega) (by omega) w
        rw [hsw, show (x : Int) - (absW x : Int) + ((absW x / 4503599627370496 : Nat) : Int) * 4503599627370496 + ((absW x % 4503599627370496 + 4503599627370496 : Nat) : Int) - 4503599627370496 = (x : Int) by omega] at this
        exact this

theorem bits64_c (x : Nat) (hx : x < 18446744073709551616) (hn : isN x = false) (w : World) :
    Calls Try.prog 21 #[.float .f64 x] w fun e w' => e = .returned (.int .u64 (x : Int)) ∧ Grown w w' := by
  have H := Lib.hid hx
  have HN := Lib.hid hn
  clear hx hn
  go_enter Try.func21, Try.ntmps21
  go_wp2_with fail
  refine (bits64_fin x H.out HN.out _).mono ?_
  rintro e w' ⟨rfl, hg⟩
  have HG := Lib.hid hg
  clear hg
  go_wp2_with fail
  go_ret
  exact ⟨rfl, HG.out⟩

theorem bits32_fin (b : Nat) (hb : b < 4294967296) (hn : isN32 b = false) (w : World) :
    Calls Try.prog 25 #[.float .f64 (widW b), .int .i64 8, .int .i64 23] w fun e w' => e = .returned (.int .u64 (b : Int)) ∧ Grown w w' := by
  have hN : ¬ 2139095040 < b % 2147483648 := by unfold isN32 at hn; simpa using hn
  have hr : rg Ieee.single b = b % 2147483648 := rg32 b
  have hU : U32 = 925 := rfl
  have hsw : (if sgW32 b = true then (2147483648 : Int) else 0) = (b : Int) - ((b % 2147483648 : Nat) : Int) := by
    unfold sgW32
    by_cases h : 2147483648 ≤ b
    · rw [if_pos (by simpa using h)]; omega
    · rw [if_neg (by simpa using h)]; omega
  by_cases h1 : b % 2147483648 = 2139095040
  · have hw := wid_inf (b := b) (by rw [hr, sgl_inf]; omega)
    rw [sg32 hb] at hw
    have := bits32_inf (widW b) 9218868437227405312 (sgW32 b) hw rfl w
    rw [hsw, show (b : Int) - ((b % 2147483648 : Nat) : Int) + 2139095040 = (b : Int) by omega] at this
    exact this
  · obtain ⟨k, hk, hv, hw⟩ := wid_rung (b := b) (by rw [hr, sgl_inf]; omega)
    rw [sg32 hb] at hw
    rw [hr, ← hU] at hv
    by_cases h0 : b % 2147483648 = 0
    · have hk0 : k = 0 := by
        rw [← val_inj (fb := 52), hv, h0, val_zero, val_zero, Nat.zero_mul]
      have := bits32_zero (widW b) k (sgW32 b) hw hk0 w
      rw [hsw, show (b : Int) - ((b % 2147483648 : Nat) : Int) = (b : Int) by omega] at this
      exact this
    · have hk0 : 0 < k := by
        rw [← val_lt_iff (fb := 52), hv, val_zero]
        exact Nat.mul_pos (val_pos (by omega)) (Nat.two_pow_pos _)
      by_cases hl : b % 2147483648 < 8388608
      · have hv2 : val 52 k = b % 2147483648 * 2 ^ U32 := by rw [hv, val_low (show b % 2147483648 < 2 ^ 23 from hl)]
        have := bits32_low (widW b) k (b % 2147483648) (sgW32 b) hw hk hk0 hl hv2 w
        rw [hsw, show (b : Int) - ((b % 2147483648 : Nat) : Int) + ((b % 2147483648 : Nat) : Int) = (b : Int) by omega] at this
        exact this
      · have hv2 : val 52 k = (b % 2147483648 % 8388608 + 8388608) * 2 ^ (b % 2147483648 / 8388608 - 1 + U32) := by
          rw [hv, val_split32 _ (by omega), Nat.mul_assoc, ← Nat.pow_add]
        have := bits32_usual (widW b) k _ _ (b % 2147483648 / 8388608) (sgW32 b) hw hk (by omega) (by omega) hv2 (by omega) (by omega) (by omega) w
        rw [hsw, show (b : Int) - ((b % 2147483648 : Nat) : Int) + ((b % 2147483648 / 8388608 : Nat) : Int) * 8388608 + ((b % 2147483648 % 8388608 + 8388608 : Nat) : Int) - 8388608 = (b : Int) by omega] at this
        exact this

theorem bits32_c (b : Nat) (hb : b < 4294967296) (hn : isN32 b = false) (w : World) :
    Calls Try.prog 16 #[.float .f32 b] w fun e w' => e = .returned (.int .u32 (b : Int)) ∧ Grown w w' := by
  have hc := fun w => run_convert_float_float (P := Try.prog) w 22 27 .f32 .f64 b _ (by rw [Try.underlying22]; rfl) Try.underlying27 (wid_bits hn)
  have hwr : IntKind.u32.wrap (b : Int) = (b : Int) := by rw [IntKind.wrap_u32']; omega
  have H := Lib.hid hb
  have HN := Lib.hid hn
  clear hb hn
  go_enter Try.func16, Try.ntmps16
  go_wp2_with fail
  refine (bits32_fin b H.out HN.out _).mono ?_
  rintro e w' ⟨rfl, hg⟩
  have HG := Lib.hid hg
  clear hg
  go_wp2_with fail
  go_ret
  exact ⟨rfl, HG.out⟩
end Go.Proofs.Ytfjophnfjfphgaa
