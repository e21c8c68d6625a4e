/-
  Binary exponents: what the library's normalize, ilogb, Ilogb and Logb give, for all words.
-/
import Derived.Test.YtalcfefnkjmdaaaVal
namespace Go.Proofs.Ytalcfefnkjmdaaa
open Ieee Num Go.RowKit

theorem xp_usual {r : Nat} (h : 4503599627370496 ≤ r) : xp r = r / 4503599627370496 + 51 := by
  have hd := Nat.div_add_mod r 4503599627370496
  have hm := Nat.mod_lt r (show 0 < 4503599627370496 by decide)
  apply xp_of
  · unfold pw
    rw [if_neg (by omega)]
    omega
  · unfold pw
    rw [if_neg (by omega)]
    omega

theorem xp_low {r : Nat} (h : r < 4503599627370496) : xp r = r.log2 := by
  unfold xp
  rw [val_low (show r < 2 ^ 52 from h)]

theorem pw_1126 : pw 1126 = 4841369599423283200 := by unfold pw; decide

/-- a smallest number times 2 to the power of 52 -/
theorem small_up {r : Nat} (s : Bool) (h0 : 0 < r) (h : r < 4503599627370496) :
    ∃ k, 4503599627370496 ≤ k ∧ k < 9218868437227405312 ∧ val 52 k = r * 2 ^ 52 ∧ k / 4503599627370496 = xp r + 1 ∧ Ieee.double.mul (wd s r) 4841369599423283200 = some (wd s k) := by
  obtain ⟨k, hk⟩ := repr_val 52 r 52 (by omega)
  have hpos : 1 * 2 ^ 52 ≤ r * 2 ^ 52 := Nat.mul_le_mul_right _ h0
  have hlo : 4503599627370496 ≤ k := by
    apply Nat.le_of_not_lt
    intro hlt
    rw [val_low (show k < 2 ^ 52 from hlt)] at hk
    have : (1 : Nat) * 2 ^ 52 = 4503599627370496 := by decide
    omega
  have hK : k < 9218868437227405312 := by
    have h1 : val 52 k < val 52 (pw 104) := by
      rw [hk, pw_val]
      have : r * 2 ^ 52 < 2 ^ 52 * 2 ^ 52 := (Nat.mul_lt_mul_right (Nat.two_pow_pos 52)).2 h
      have e : (2 : Nat) ^ 52 * 2 ^ 52 = 2 ^ 104 := by decide
      omega
    have := val_lt_iff.1 h1
    have := pw_bd (u := 104) (by omega)
    omega
  refine ⟨k, hlo, hK, hk, ?_, ?_⟩
  · have h1 := xp_usual hlo
    have h2 : xp k = xp r + 52 := by
      rw [xp_low h]
      unfold xp
      rw [hk, log2_shift (by omega)]
    omega
  · rw [← pw_1126]
    refine mul_exact_s (by omega) (pw_bd (by omega)) hK ?_
    rw [pw_val, hk, val_low (show r < 2 ^ 52 from h), Nat.mul_assoc]
    have hz := Zp_eq
    rw [show (1126 : Nat) = 52 + Zp by omega, Nat.pow_add]

theorem bits_exp {x : Nat} (h : x < 18446744073709551616) : bits .and .u64 ((x : Int) / 4503599627370496) 2047 = ((x / 4503599627370496 % 2048 : Nat) : Int) := by
  have h1 := u64_and_nat (x / 4503599627370496) 2047 (by omega) (by decide)
  rw [nat_mask11] at h1
  rw [← h1]
  rfl

theorem mabs_c (x : Nat) (hx : x < 18446744073709551616) (w : World) :
    Calls Try.prog 38 #[.float .f64 x] w fun e w' => e = .returned (.float .f64 (absW x)) ∧ w = w' := by
  have h1 := bits64
  have h2 := from64
  have H := Lib.hid hx
  clear hx
  go_enter Try.func38, Try.ntmps38
  go_wp2
  go_ret
  exact ⟨ret_f64 (by rw [bits_abs H.out, Int.toNat_natCast]), rfl⟩
theorem misnan_c (x : Nat) (hx : x < 18446744073709551616) (w : World) :
    Calls Try.prog 32 #[.float .f64 x] w fun e w' => e = .returned (.bool (isN x)) ∧ w = w' := by
  by_cases hn : isN x = true
  · have h1 := ord_nl x hn
    rw [hn]
    clear hx hn
    go_enter Try.func32, Try.ntmps32
    go_wp2
    go_ret
    exact ⟨rfl, rfl⟩
  · have hn : isN x = false := by simpa using hn
    have h1 := ord_self hx hn
    rw [hn]
    clear hx hn
    go_enter Try.func32, Try.ntmps32
    go_wp2
    go_ret
    exact ⟨rfl, rfl⟩
theorem misinf_c (x : Nat) (hx : x < 18446744073709551616) (w : World) :
    Calls Try.prog 33 #[.float .f64 x, .int .i64 0] w fun e w' => e = .returned (.bool (decide (absW x = 9218868437227405312))) ∧ w = w' := by
  have H := Lib.hid hx
  clear hx
  go_enter Try.func33, Try.ntmps33
  go_wp2_with (go_at_call 38; refine (mabs_c _ H.out _).mono ?_; rintro e w' ⟨rfl, rfl⟩)
  go_ret
  exact ⟨ret_bool (gtmax (absW_lt64 x)), rfl⟩
theorem norm_hi (x : Nat) (hx : x < 18446744073709551616) (h1 : 4503599627370496 ≤ absW x) (h2 : absW x < 9218868437227405312) (w : World) :
    Calls Try.prog 39 #[.float .f64 x] w fun e w' => e = .returned (.tuple #[.float .f64 x, .int .i64 0]) ∧ w = w' := by
  have H := Lib.hid hx
  have ho : (FloatKind.f64.format.order (absW x) 4503599627370496 == some .lt) = false := by
    by_cases e : absW x = 4503599627370496
    · rw [e]; decide +kernel
    · rw [ord_gtw (by omega) (by decide) (by omega)]; rfl
  clear hx h1 h2
  go_enter Try.func39, Try.ntmps39
  go_wp2_with (go_at_call 38; refine (mabs_c _ H.out _).mono ?_; rintro e w' ⟨rfl, rfl⟩)
  go_ret2
  exact ⟨rfl, rfl⟩

theorem norm_lo (s : Bool) (r k : Nat) (h : r < 4503599627370496) (hm : Ieee.double.mul (wd s r) 4841369599423283200 = some (wd s k)) (w : World) :
    Calls Try.prog 39 #[.float .f64 (wd s r)] w fun e w' => e = .returned (.tuple #[.float .f64 (wd s k), .int .i64 (-52)]) ∧ w = w' := by
  have H := Lib.hid (wd_lt (s := s) (k := r) (by omega))
  have ha : absW (wd s r) = r := wd_abs (by omega)
  have ho := ord_ltw (a := r) (b := 4503599627370496) (by omega) (by decide) h
  have hr := fun t w => run_mul_ok (P := Try.prog) hm t w
  clear h hm
  go_enter Try.func39, Try.ntmps39
  go_wp2_with (go_at_call 38; refine (mabs_c _ H.out _).mono ?_; rintro e w' ⟨rfl, rfl⟩)
  go_ret2
  exact ⟨rfl, rfl⟩
theorem milogb_hi (x : Nat) (hx : x < 18446744073709551616) (h1 : 4503599627370496 ≤ absW x) (h2 : absW x < 9218868437227405312) (w : World) :
    Calls Try.prog 34 #[.float .f64 x] w fun e w' => e = .returned (.int .i64 ((xp (absW x) : Int) - 1074)) ∧ w = w' := by
  have b1 := bits64
  have hxp := xp_usual h1
  obtain ⟨q, hq⟩ : ∃ q, q = x / 4503599627370496 % 2048 := ⟨_, rfl⟩
  have hb := bits_exp hx
  rw [← hq] at hb
  have hqx : (xp (absW x) : Int) - 1074 = (q : Int) - 1023 := by
    have ha : absW x = x % 9223372036854775808 := rfl
    omega
  have hqb : (q : Int) < 2048 := by omega
  rw [hqx]
  have H := Lib.hid hx
  have H1 := Lib.hid h1
  have H2 := Lib.hid h2
  clear hx h1 h2 hxp hq hqx
  go_enter Try.func34, Try.ntmps34
  go_wp2_with (go_at_call 39; refine (norm_hi _ H.out H1.out H2.out _).mono ?_; rintro e w' ⟨rfl, rfl⟩)
  go_ret
  exact ⟨rfl, rfl⟩

theorem milogb_lo (s : Bool) (r : Nat) (h0 : 0 < r) (h : r < 4503599627370496) (w : World) :
    Calls Try.prog 34 #[.float .f64 (wd s r)] w fun e w' => e = .returned (.int .i64 ((xp r : Int) - 1074)) ∧ w = w' := by
  have b1 := bits64
  obtain ⟨k, k1, k2, _, kq, km⟩ := small_up s h0 h
  have hx : wd s k < 18446744073709551616 := wd_lt (by omega)
  obtain ⟨q, hq⟩ : ∃ q, q = wd s k / 4503599627370496 % 2048 := ⟨_, rfl⟩
  have hb := bits_exp hx
  rw [← hq] at hb
  have ha := wd_abs (s := s) (k := k) (by omega)
  have hqx : (xp r : Int) - 1074 = (q : Int) - 1023 - 52 := by
    unfold absW at ha
    omega
  have hqb : (q : Int) < 2048 := by omega
  rw [hqx]
  have H := Lib.hid h
  have HM := Lib.hid km
  clear h0 h k1 k2 kq km hx hq ha hqx
  go_enter Try.func34, Try.ntmps34
  go_wp2_with (go_at_call 39; refine (norm_lo s r k H.out HM.out _).mono ?_; rintro e w' ⟨rfl, rfl⟩)
  go_ret
  exact ⟨by first | rfl | exact ret_int (by omega), rfl⟩

theorem milogb_c (x : Nat) (hx : x < 18446744073709551616) (h0 : 0 < absW x) (h2 : absW x < 9218868437227405312) (w : World) :
    Calls Try.prog 34 #[.float .f64 x] w fun e w' => e = .returned (.int .i64 ((xp (absW x) : Int) - 1074)) ∧ w = w' := by
  by_cases h1 : 4503599627370496 ≤ absW x
  · exact milogb_hi x hx h1 h2 w
  · have := milogb_lo (sgW x) (absW x) h0 (by omega) w
    rw [wd_self hx] at this
    exact this

theorem isN_fin {x : Nat} (h : absW x < 9218868437227405312) : isN x = false := by
  unfold isN
  unfold absW at h
  simp only [decide_eq_false_iff_not]
  omega
theorem xp_bd {r : Nat} (h0 : 0 < r) (h : r < 9218868437227405312) : xp r ≤ 2097 := by
  obtain ⟨u, hu⟩ : ∃ u : Nat, u = 2098 := ⟨_, rfl⟩
  have h1 : val 52 r < 2 ^ u := by
    rw [← pw_val, hu, pw_top]
    exact val_lt h
  have hne : val 52 r ≠ 0 := by have := val_pos (fb := 52) h0; omega
  have := (Nat.log2_lt hne).2 h1
  unfold xp
  omega

theorem ilogb_fin (x : Nat) (hx : x < 18446744073709551616) (h0 : 0 < absW x) (h2 : absW x < 9218868437227405312) (w : World) :
    Calls Try.prog 18 #[.float .f64 x] w fun e w' => e = .returned (.int .i64 ((xp (absW x) : Int) - 1074)) ∧ w = w' := by
  have hn := isN_fin h2
  have hne := ne_zero hx hn h0
  have hi : decide (absW x = 9218868437227405312) = false := by simp only [decide_eq_false_iff_not]; omega
  have H := Lib.hid hx
  have H0 := Lib.hid h0
  have H2 := Lib.hid h2
  clear hx h0 h2
  go_enter Try.func18, Try.ntmps18
  go_wp2_with (first | (go_at_call 26; go_in) | (go_at_call 32; refine (misnan_c _ H.out _).mono ?_; rintro e w' ⟨rfl, rfl⟩) | (go_at_call 33; refine (misinf_c _ H.out _).mono ?_; rintro e w' ⟨rfl, rfl⟩) | (go_at_call 34; refine (milogb_c _ H.out H0.out H2.out _).mono ?_; rintro e w' ⟨rfl, rfl⟩))
  go_ret
  exact ⟨rfl, rfl⟩

theorem ilogb_zero (x : Nat) (hx : x < 18446744073709551616) (h0 : absW x = 0) (w : World) :
    Calls Try.prog 18 #[.float .f64 x] w fun e w' => e = .returned (.int .i64 (-2147483648)) ∧ w = w' := by
  have ho : FloatKind.f64.format.order x 0 = some .eq := by
    unfold absW at h0
    have : x = 0 ∨ x = 9223372036854775808 := by omega
    rcases this with h | h
    · rw [h]; exact ord0_pz
    · rw [h]; exact ord0_nz
  clear hx h0
  go_enter Try.func18, Try.ntmps18
  go_wp2
  go_ret
  exact ⟨rfl, rfl⟩

theorem ilogb_not (x : Nat) (hx : x < 18446744073709551616) (h : 9218868437227405312 ≤ absW x) (w : World) :
    Calls Try.prog 18 #[.float .f64 x] w fun e w' => e = .returned (.int .i64 2147483647) ∧ w = w' := by
  have H := Lib.hid hx
  have hne : (FloatKind.f64.format.order x 0 == some .eq) = false := by
    by_cases hn : isN x = true
    · rw [ord_nl 0 hn]; rfl
    · exact ne_zero hx (by simpa using hn) (by omega)
  by_cases hn : isN x = true
  · clear hx h
    go_enter Try.func18, Try.ntmps18
    go_wp2_with (first | (go_at_call 26; go_in) | (go_at_call 32; refine (misnan_c _ H.out _).mono ?_; rintro e w' ⟨rfl, rfl⟩))
    go_ret
    exact ⟨rfl, rfl⟩
  · have hn : isN x = false := by simpa using hn
    have hi : decide (absW x = 9218868437227405312) = true := by
      unfold isN at hn
      unfold absW at h ⊢
      simp only [decide_eq_true_eq, decide_eq_false_iff_not] at hn ⊢
      omega
    clear hx h
    go_enter Try.func18, Try.ntmps18
    go_wp2_with (first | (go_at_call 26; go_in) | (go_at_call 32; refine (misnan_c _ H.out _).mono ?_; rintro e w' ⟨rfl, rfl⟩) | (go_at_call 33; refine (misinf_c _ H.out _).mono ?_; rintro e w' ⟨rfl, rfl⟩))
    go_ret
    exact ⟨rfl, rfl⟩

theorem logb_fin (x : Nat) (hx : x < 18446744073709551616) (h0 : 0 < absW x) (h2 : absW x < 9218868437227405312) (w : World) :
    Calls Try.prog 19 #[.float .f64 x] w fun e w' => e = .returned (.float .f64 (floatOfInt .f64 ((xp (absW x) : Int) - 1074))) ∧ w = w' := by
  have hn := isN_fin h2
  have hne := ne_zero hx hn h0
  have hi : decide (absW x = 9218868437227405312) = false := by simp only [decide_eq_false_iff_not]; omega
  have H := Lib.hid hx
  have H0 := Lib.hid h0
  have H2 := Lib.hid h2
  clear hx h0 h2
  go_enter Try.func19, Try.ntmps19
  go_wp2_with (first | (go_at_call 27; go_in) | (go_at_call 32; refine (misnan_c _ H.out _).mono ?_; rintro e w' ⟨rfl, rfl⟩) | (go_at_call 33; refine (misinf_c _ H.out _).mono ?_; rintro e w' ⟨rfl, rfl⟩) | (go_at_call 34; refine (milogb_c _ H.out H0.out H2.out _).mono ?_; rintro e w' ⟨rfl, rfl⟩))
  go_ret
  exact ⟨rfl, rfl⟩

theorem logb_zero (x : Nat) (hx : x < 18446744073709551616) (h0 : absW x = 0) (w : World) :
    Calls Try.prog 19 #[.float .f64 x] w fun e w' => e = .returned (.float .f64 18442240474082181120) ∧ w = w' := by
  have h2 := from64
  have ho : FloatKind.f64.format.order x 0 = some .eq := by
    unfold absW at h0
    have : x = 0 ∨ x = 9223372036854775808 := by omega
    rcases this with h | h
    · rw [h]; exact ord0_pz
    · rw [h]; exact ord0_nz
  clear hx h0
  go_enter Try.func19, Try.ntmps19
  go_wp2
  go_ret
  exact ⟨rfl, rfl⟩

theorem logb_inf (x : Nat) (hx : x < 18446744073709551616) (h : absW x = 9218868437227405312) (w : World) :
    Calls Try.prog 19 #[.float .f64 x] w fun e w' => e = .returned (.float .f64 9218868437227405312) ∧ w = w' := by
  have h2 := from64
  have H := Lib.hid hx
  have hn : isN x = false := by unfold isN; unfold absW at h; simp only [decide_eq_false_iff_not]; omega
  have hne := ne_zero hx hn (by omega)
  have hi : decide (absW x = 9218868437227405312) = true := by simpa using h
  clear hx h hn
  go_enter Try.func19, Try.ntmps19
  go_wp2_with (first | (go_at_call 27; go_in) | (go_at_call 35; go_in) | (go_at_call 33; refine (misinf_c _ H.out _).mono ?_; rintro e w' ⟨rfl, rfl⟩))
  go_ret
  exact ⟨rfl, rfl⟩

theorem logb_nan (x : Nat) (hx : x < 18446744073709551616) (hn : isN x = true) (w : World) :
    Calls Try.prog 19 #[.float .f64 x] w fun e w' => e = .returned (.float .f64 x) ∧ w = w' := by
  have H := Lib.hid hx
  have hne := ord_nl 0 hn
  have hi : decide (absW x = 9218868437227405312) = false := by unfold isN at hn; unfold absW; simp only [decide_eq_true_eq, decide_eq_false_iff_not] at hn ⊢; omega
  clear hx
  go_enter Try.func19, Try.ntmps19
  go_wp2_with (first | (go_at_call 27; go_in) | (go_at_call 32; refine (misnan_c _ H.out _).mono ?_; rintro e w' ⟨rfl, rfl⟩) | (go_at_call 33; refine (misinf_c _ H.out _).mono ?_; rintro e w' ⟨rfl, rfl⟩))
  go_ret
  exact ⟨rfl, rfl⟩

/-! ## whole numbers as words -/

theorem abs_pow2 (a : Int) (p : Nat) : (a * 2 ^ p : Int).natAbs = a.natAbs * 2 ^ p := by rw [Int.natAbs_mul, Int.natAbs_pow]; rfl
theorem pow_pos_int (p : Nat) : (0 : Int) < 2 ^ p := by exact_mod_cast Nat.two_pow_pos p

/-- the word of a whole number with its sign -/
theorem ofInt_word {n : Int} (h : n.natAbs < 9007199254740992) : ∃ k, k < 9218868437227405312 ∧ floatOfInt .f64 n = wd (decide (n < 0)) k ∧ val 52 k = n.natAbs * 2 ^ Zp := by
  obtain ⟨k, hk, he, hv⟩ := ofNat_word h
  refine ⟨k, hk, ?_, hv⟩
  show Ieee.double.nearest (decide (n < 0)) n.natAbs 0 = _
  have he' : Ieee.double.nearest (decide (((n.natAbs : Nat) : Int) < 0)) ((n.natAbs : Nat) : Int).natAbs 0 = k := he
  rw [nearest_eq] at he' ⊢
  rw [Int.natAbs_natCast] at he'
  have e1 : decide (((n.natAbs : Nat) : Int) < 0) = false := by simp only [decide_eq_false_iff_not]; omega
  rw [e1] at he'
  unfold Format.word at he'
  simp only [Bool.false_eq_true, if_false] at he'
  rw [he']
  rfl

theorem ofInt_facts {n : Int} (h : n.natAbs < 9007199254740992) :
    floatOfInt .f64 n < 18446744073709551616 ∧ isN (floatOfInt .f64 n) = false ∧ rg Ieee.double (floatOfInt .f64 n) < Ieee.double.infRung ∧ sv Ieee.double (floatOfInt .f64 n) = n * 2 ^ Zp ∧ sg Ieee.double (floatOfInt .f64 n) = decide (n < 0) := by
  obtain ⟨k, hk, he, hv⟩ := ofInt_word h
  have hr : rg Ieee.double (wd (decide (n < 0)) k) = k := by
    have := wd_abs (s := decide (n < 0)) (k := k) (by omega)
    unfold absW at this
    rw [rg64]
    exact this
  have hs : sg Ieee.double (wd (decide (n < 0)) k) = decide (n < 0) := by rw [sg64 (wd_lt (by omega)), wd_sg (by omega)]
  rw [he]
  refine ⟨wd_lt (by omega), wd_nan (by omega), by rw [hr, dbl_inf]; exact hk, ?_, hs⟩
  unfold sv
  rw [hr, hs, dbl_fb, hv]
  by_cases hn : n < 0
  · rw [if_pos (by simpa using hn)]
    rw [show n = -(n.natAbs : Int) by omega]
    simp [Int.neg_mul]
  · rw [if_neg (by simpa using hn)]
    rw [show n = (n.natAbs : Int) by omega]
    simp

/-- their order is that of the numbers -/
theorem ord_ofInt {n m : Int} (hn : n.natAbs < 9007199254740992) (hm : m.natAbs < 9007199254740992) : FloatKind.f64.format.order (floatOfInt .f64 n) (floatOfInt .f64 m) = some (compare n m) := by
  obtain ⟨_, _, f1, v1, _⟩ := ofInt_facts hn
  obtain ⟨_, _, f2, v2, _⟩ := ofInt_facts hm
  have h := order_fin dbl_e f1 f2
  have hpos : (0 : Int) < 2 ^ Zp := pow_pos_int Zp
  have l1 : sr Ieee.double (floatOfInt .f64 n) < sr Ieee.double (floatOfInt .f64 m) ↔ n < m := by
    rw [← sv_lt, v1, v2]
    exact ⟨fun h => Int.lt_of_mul_lt_mul_right h (Int.le_of_lt hpos), fun h => Int.mul_lt_mul_of_pos_right h hpos⟩
  have l2 : sr Ieee.double (floatOfInt .f64 n) = sr Ieee.double (floatOfInt .f64 m) ↔ n = m := by
    rw [← sv_eq, v1, v2]
    exact ⟨fun h => Int.eq_of_mul_eq_mul_right (by omega) h, fun h => by rw [h]⟩
  have e : compare (sr Ieee.double (floatOfInt .f64 n)) (sr Ieee.double (floatOfInt .f64 m)) = compare n m := by
    show compareOfLessAndEq _ _ = compareOfLessAndEq _ _
    unfold compareOfLessAndEq
    simp only [l1, l2]
  rw [e] at h
  exact h

theorem ofInt_toInt {n : Int} (h : n.natAbs < 9007199254740992) : floatToIntVal .f64 (floatOfInt .f64 n) .i64 = some n := by
  obtain ⟨k, hk, he, hv⟩ := ofInt_word h
  obtain ⟨_, _, f1, _, s1⟩ := ofInt_facts h
  have hr : rg Ieee.double (floatOfInt .f64 n) = k := by
    rw [he, rg64]
    have := wd_abs (s := decide (n < 0)) (k := k) (by omega)
    unfold absW at this
    exact this
  unfold floatToIntVal
  have e : (FloatKind.f64.decode (floatOfInt .f64 n)).toInt .zero = some n := by
    show (Ieee.double.read (floatOfInt .f64 n)).toInt .zero = _
    rw [toInt_fin dbl_e dbl_lp0 f1, s1, hr, lpN, dbl_fb, hv, Nat.mul_div_cancel _ (Nat.two_pow_pos _)]
    congr 1
    by_cases hn : n < 0
    · rw [if_pos (by simpa using hn)]; omega
    · rw [if_neg (by simpa using hn)]; omega
  rw [e]
  dsimp only
  rw [if_pos]
  have a : IntKind.i64.min = -9223372036854775808 := rfl
  have b : IntKind.i64.max = 9223372036854775807 := rfl
  rw [a, b]
  omega

/-- one more -/
theorem add_one {n : Int} (h : n.natAbs < 4503599627370496) : Ieee.double.add (floatOfInt .f64 n) 4607182418800017408 = some (floatOfInt .f64 (n + 1)) := by
  have e1 : floatOfInt .f64 1 = 4607182418800017408 := by decide +kernel
  rw [← e1]
  obtain ⟨_, _, f1, v1, s1⟩ := ofInt_facts (n := n) (by omega)
  obtain ⟨_, _, f2, v2, s2⟩ := ofInt_facts (n := 1) (by omega)
  obtain ⟨k, hk, he, hv⟩ := ofInt_word (n := n + 1) (by omega)
  rw [add_fin dbl_e f1 f2, v1, v2, s1, s2, he]
  congr 1
  unfold sumWord
  rw [← Int.add_mul, dbl_inf, dbl_fb]
  have hpos : (0 : Int) < 2 ^ Zp := pow_pos_int Zp
  have ab : ((n + 1) * 2 ^ Zp : Int).natAbs = (n + 1).natAbs * 2 ^ Zp := abs_pow2 (n + 1) Zp
  have z : (((n + 1) * 2 ^ Zp : Int) = 0) = (n + 1 = 0) := by
    apply propext
    constructor
    · intro h
      rcases Int.mul_eq_zero.1 h with h | h
      · exact h
      · omega
    · intro h
      rw [h, Int.zero_mul]
  have l : (((n + 1) * 2 ^ Zp : Int) < 0) = (n + 1 < 0) := by
    apply propext
    constructor
    · intro h
      apply Int.lt_of_not_ge
      intro h2
      have := Int.mul_nonneg h2 (Int.le_of_lt hpos)
      omega
    · intro h
      exact Int.mul_neg_of_neg_of_pos h hpos
  rw [ab, ← hv, rnd_val]
  have e2 : min k 9218868437227405312 = k := by omega
  rw [e2]
  simp only [z, l]
  have e3 : (if n + 1 = 0 then decide (n < 0) && decide ((1 : Int) < 0) else decide (n + 1 < 0)) = decide (n + 1 < 0) := by
    by_cases h0 : n + 1 = 0
    · rw [if_pos h0, h0]; simp
    · rw [if_neg h0]
  rw [e3]
  rfl

theorem xp_eight : xp 4620693217682128896 = 1077 := by
  have h : pw 1077 = 4620693217682128896 := by unfold pw; decide
  apply xp_of
  · rw [h]; exact Nat.le_refl _
  · rw [← h]; exact pw_lt (by omega)
theorem abs_eight : absW 4620693217682128896 = 4620693217682128896 := by decide
theorem ilogb_8 (w : World) :
    Calls Try.prog 18 #[.float .f64 4620693217682128896] w fun e w' => e = .returned (.int .i64 3) ∧ w = w' := by
  have := ilogb_fin 4620693217682128896 (by decide) (by rw [abs_eight]; decide) (by rw [abs_eight]; decide) w
  rw [abs_eight, xp_eight] at this
  exact this
theorem logb_8 (w : World) :
    Calls Try.prog 19 #[.float .f64 4620693217682128896] w fun e w' => e = .returned (.float .f64 4613937818241073152) ∧ w = w' := by
  have := logb_fin 4620693217682128896 (by decide) (by rw [abs_eight]; decide) (by rw [abs_eight]; decide) w
  rw [abs_eight, xp_eight] at this
  have e : floatOfInt .f64 (((1077 : Nat) : Int) - 1074) = 4613937818241073152 := by decide +kernel
  rw [e] at this
  exact this
theorem logs_zero (x : Nat) (hx : x < 18446744073709551616) (h0 : absW x = 0) (w : World) :
    Calls Try.prog 22 #[.float .f64 x] w fun e w' => e = .returned (.float .f64 18442240474082181120) ∧ w = w' := by
  have ho : FloatKind.f64.format.order x 0 = some .eq := by
    unfold absW at h0
    have : x = 0 ∨ x = 9223372036854775808 := by omega
    rcases this with h | h
    · rw [h]; exact ord0_pz
    · rw [h]; exact ord0_nz
  clear hx h0
  go_enter Try.func22, Try.ntmps22
  go_wp2_with (go_at_call 29; refine (infinite_c _ _).mono ?_; rintro e w' ⟨rfl, rfl⟩)
  go_ret
  exact ⟨rfl, rfl⟩
theorem logs_inf (x : Nat) (hx : x < 18446744073709551616) (hn : isN x = false) (h0 : 0 < absW x) (w : World) :
    Calls Try.prog 22 #[.float .f64 x] w fun e w' => e = .returned (.float .f64 9218868437227405312) ∧ w = w' := by
  have ho := ne_zero hx hn h0
  have hs := ord_self hx hn
  clear hx h0 hn
  go_enter Try.func22, Try.ntmps22
  go_wp2_with (go_at_call 29; refine (infinite_c _ _).mono ?_; rintro e w' ⟨rfl, rfl⟩)
  go_ret
  exact ⟨rfl, rfl⟩
theorem logs_nan (x : Nat) (hn : isN x = true) (w : World) :
    Calls Try.prog 22 #[.float .f64 x] w fun e w' => e = .returned (.float .f64 (nanR 0 0 w)) ∧ w.drew = w' := by
  have ho := ord_nl 0 hn
  have hs := ord_nl x hn
  clear hn
  go_enter Try.func22, Try.ntmps22
  go_wp2_with (go_at_call 30; refine (number_c _).mono ?_; rintro e w' ⟨rfl, rfl⟩)
  go_ret
  exact ⟨rfl, rfl⟩
theorem ofInt_self {n : Int} (h : n.natAbs < 9007199254740992) : FloatKind.f64.format.order (floatOfInt .f64 n) (floatOfInt .f64 n) = some .eq := by
  rw [ord_ofInt h h, cmp_eq rfl]
theorem pw_52 : pw 52 = 4503599627370496 := by unfold pw; decide
theorem power_low (w : World) :
    Calls Try.prog 17 #[.int .i64 (-1022)] w fun e w' => e = .returned (.float .f64 4503599627370496) ∧ w = w' := by
  have := power_u (-1022) 52 (by decide) (by decide) w
  rw [pw_52] at this
  exact this
end Go.Proofs.Ytalcfefnkjmdaaa
