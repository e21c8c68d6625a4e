/-
  The library's Frexp and Log2: of what is no number or negative, of zeros, of the infinity, and of powers of two.
-/
import Derived.Test.YtalcfefnkjmdaaaLog2
namespace Go.Proofs.Ytalcfefnkjmdaaa
open Ieee Num Go.RowKit

theorem bits_frac {x : Nat} (h : x < 18446744073709551616) : bits .andNot .u64 (x : Int) 9218868437227405312 = ((x / 9223372036854775808 % 2 * 9223372036854775808 + x % 4503599627370496 : Nat) : Int) := by
  have h1 := u64_andNot_nat x 9218868437227405312 h (by decide)
  have e : (18446744073709551615 - 9218868437227405312 : Nat) = 9223372036854775808 ||| 4503599627370495 := by decide
  have h2 : x &&& (18446744073709551615 - 9218868437227405312) = x / 9223372036854775808 % 2 * 9223372036854775808 + x % 4503599627370496 := by
    rw [e, Nat.and_or_distrib_left]
    have b1 : x &&& 9223372036854775808 = x / 9223372036854775808 % 2 * 9223372036854775808 := nat_bit 63 x
    have b2 : x &&& 4503599627370495 = x % 4503599627370496 := Nat.and_two_pow_sub_one_eq_mod x 52
    rw [b1, b2]
    exact nat_join 52 _ _ (by show x / 9223372036854775808 % 2 * 9223372036854775808 % 4503599627370496 = 0; omega) (Nat.mod_lt _ (by decide))
  rw [h2] at h1
  exact h1

theorem bits_half {s t : Nat} (hs : s ≤ 1) (ht : t < 4503599627370496) : bits .or .u64 ((s * 9223372036854775808 + t : Nat) : Int) 4602678819172646912 = ((s * 9223372036854775808 + (4602678819172646912 + t) : Nat) : Int) := by
  have h1 := u64_or_nat (s * 9223372036854775808 + t) 4602678819172646912 (by omega) (by decide)
  have j1 : (4602678819172646912 : Nat) ||| t = 4602678819172646912 + t := nat_join 52 _ _ (by decide) ht
  have j2 : s * 9223372036854775808 ||| t = s * 9223372036854775808 + t := nat_join 63 _ _ (by show s * 9223372036854775808 % 9223372036854775808 = 0; omega) (by show t < 9223372036854775808; omega)
  have j3 : s * 9223372036854775808 ||| (4602678819172646912 + t) = s * 9223372036854775808 + (4602678819172646912 + t) := nat_join 63 _ _ (by show s * 9223372036854775808 % 9223372036854775808 = 0; omega) (by show 4602678819172646912 + t < 9223372036854775808; omega)
  have h2 : (s * 9223372036854775808 + t) ||| 4602678819172646912 = s * 9223372036854775808 + (4602678819172646912 + t) := by
    rw [← j2, Nat.or_assoc, Nat.or_comm t, j1, j3]
  rw [h2] at h1
  exact h1

/-- the word of the fraction that Frexp gives -/
theorem frac_word {x : Nat} (h : x < 18446744073709551616) : (bits .or .u64 (bits .andNot .u64 (x : Int) 9218868437227405312) 4602678819172646912).toNat = wd (sgW x) (4602678819172646912 + x % 4503599627370496) := by
  rw [bits_frac h, bits_half (by omega) (Nat.mod_lt _ (by decide)), Int.toNat_natCast, wd_eq]
  unfold sgW
  by_cases hs : 9223372036854775808 ≤ x
  · rw [if_pos (by simpa using hs)]; omega
  · rw [if_neg (by simpa using hs)]; omega

theorem ret_tup {a b : Nat} {c d : Int} (h : a = b) (k : c = d) : Ending.returned (.tuple #[.float .f64 a, .int .i64 c]) = .returned (.tuple #[.float .f64 b, .int .i64 d]) := by rw [h, k]

theorem frexp_zero (x : Nat) (hx : x < 18446744073709551616) (h0 : absW x = 0) (w : World) :
    Calls Try.prog 41 #[.float .f64 x] w fun e w' => e = .returned (.tuple #[.float .f64 x, .int .i64 0]) ∧ w = w' := by
  have ho : FloatKind.f64.format.order x 0 = some .eq := by
    unfold absW at h0
    have : x = 0 ∨ x = 9223372036854775808 := by omega
    rcases this with h | h
    · rw [h]; exact ord0_pz
    · rw [h]; exact ord0_nz
  clear hx h0
  go_enter Try.func41, Try.ntmps41
  go_wp2
  go_ret2
  exact ⟨rfl, rfl⟩

theorem frexp_not (x : Nat) (hx : x < 18446744073709551616) (h : 9218868437227405312 ≤ absW x) (w : World) :
    Calls Try.prog 41 #[.float .f64 x] w fun e w' => e = .returned (.tuple #[.float .f64 x, .int .i64 0]) ∧ w = w' := by
  have H := Lib.hid hx
  have hne : (FloatKind.f64.format.order x 0 == some .eq) = false := by
    by_cases hn : isN x = true
    · rw [ord_nl 0 hn]; rfl
    · exact ne_zero hx (by simpa using hn) (by omega)
  by_cases hn : isN x = true
  · have hi : decide (absW x = 9218868437227405312) = false := by unfold isN at hn; unfold absW; simp only [decide_eq_true_eq, decide_eq_false_iff_not] at hn ⊢; omega
    clear hx h
    go_enter Try.func41, Try.ntmps41
    go_wp2_with (first | (go_at_call 44; go_in) | (go_at_call 32; refine (misnan_c _ H.out _).mono ?_; rintro e w' ⟨rfl, rfl⟩) | (go_at_call 33; refine (misinf_c _ H.out _).mono ?_; rintro e w' ⟨rfl, rfl⟩))
    go_ret2
    exact ⟨rfl, rfl⟩
  · have hn : isN x = false := by simpa using hn
    have hi : decide (absW x = 9218868437227405312) = true := by
      unfold isN at hn
      unfold absW at h ⊢
      simp only [decide_eq_true_eq, decide_eq_false_iff_not] at hn ⊢
      omega
    clear hx h
    go_enter Try.func41, Try.ntmps41
    go_wp2_with (first | (go_at_call 44; go_in) | (go_at_call 32; refine (misnan_c _ H.out _).mono ?_; rintro e w' ⟨rfl, rfl⟩) | (go_at_call 33; refine (misinf_c _ H.out _).mono ?_; rintro e w' ⟨rfl, rfl⟩))
    go_ret2
    exact ⟨rfl, rfl⟩

set_option maxRecDepth 100000 in
theorem frexp_hi (x : Nat) (hx : x < 18446744073709551616) (h1 : 4503599627370496 ≤ absW x) (h2 : absW x < 9218868437227405312) (w : World) :
    Calls Try.prog 41 #[.float .f64 x] w fun e w' => e = .returned (.tuple #[.float .f64 (wd (sgW x) (4602678819172646912 + x % 4503599627370496)), .int .i64 ((xp (absW x) : Int) - 1073)]) ∧ w = w' := by
  have b1 := bits64
  have b2 := from64
  have hn := isN_fin h2
  have hne := ne_zero hx hn (by omega)
  have hi : decide (absW x = 9218868437227405312) = false := by simp only [decide_eq_false_iff_not]; omega
  have hxp := xp_usual h1
  obtain ⟨q, hq⟩ : ∃ q, q = x / 4503599627370496 % 2048 := ⟨_, rfl⟩
  have hb := bits_exp hx
  rw [← hq] at hb
  have hqx : (xp (absW x) : Int) - 1073 = (q : Int) - 1023 + 1 := by
    have ha : absW x = x % 9223372036854775808 := rfl
    omega
  have hqb : (q : Int) < 2048 := by omega
  have hfw := frac_word hx
  obtain ⟨g, hg⟩ : ∃ g, g = bits .or .u64 (bits .andNot .u64 (x : Int) 9218868437227405312) 4602678819172646912 := ⟨_, rfl⟩
  rw [← hg] at hfw
  rw [hqx, ← hfw]
  have H := Lib.hid hx
  have H1 := Lib.hid h1
  have H2 := Lib.hid h2
  have HG := Lib.hid hg
  clear hx h1 h2 hxp hq hqx hfw hg
  go_enter Try.func41, Try.ntmps41
  go_wp2_with (first | (go_at_call 44; go_in) | (go_at_call 32; refine (misnan_c _ H.out _).mono ?_; rintro e w' ⟨rfl, rfl⟩) | (go_at_call 33; refine (misinf_c _ H.out _).mono ?_; rintro e w' ⟨rfl, rfl⟩) | (go_at_call 39; refine (norm_hi _ H.out H1.out H2.out _).mono ?_; rintro e w' ⟨rfl, rfl⟩))
  go_ret2
  exact ⟨ret_tup (by rw [HG.out]) rfl, rfl⟩

set_option maxRecDepth 100000 in
theorem frexp_lo (s : Bool) (r k : Nat) (h0 : 0 < r) (h : r < 4503599627370496) (k1 : 4503599627370496 ≤ k) (k2 : k < 9218868437227405312) (kq : k / 4503599627370496 = xp r + 1) (km : Ieee.double.mul (wd s r) 4841369599423283200 = some (wd s k)) (w : World) :
    Calls Try.prog 41 #[.float .f64 (wd s r)] w fun e w' => e = .returned (.tuple #[.float .f64 (wd s (4602678819172646912 + k % 4503599627370496)), .int .i64 ((xp r : Int) - 1073)]) ∧ w = w' := by
  have b1 := bits64
  have b2 := from64
  have hx0 : wd s r < 18446744073709551616 := wd_lt (by omega)
  have har : absW (wd s r) = r := wd_abs (by omega)
  have hn : isN (wd s r) = false := wd_nan (by omega)
  have hne := ne_zero hx0 hn (by omega)
  have hi : decide (absW (wd s r) = 9218868437227405312) = false := by simp only [decide_eq_false_iff_not]; omega
  have hx : wd s k < 18446744073709551616 := wd_lt (by omega)
  obtain ⟨q, hq⟩ : ∃ q, q = wd s k / 4503599627370496 % 2048 := ⟨_, rfl⟩
  have hb := bits_exp hx
  rw [← hq] at hb
  have ha := wd_abs (s := s) (k := k) (by omega)
  have hsg := wd_sg (s := s) (k := k) (by omega)
  have hqx : (xp r : Int) - 1073 = -52 + ((q : Int) - 1023 + 1) := by
    unfold absW at ha
    omega
  have hkm : wd s k % 4503599627370496 = k % 4503599627370496 := by
    unfold absW at ha
    omega
  have hqb : (q : Int) < 2048 := by omega
  have hfw := frac_word hx
  rw [hsg, hkm] at hfw
  obtain ⟨g, hg⟩ : ∃ g, g = bits .or .u64 (bits .andNot .u64 ((wd s k : Nat) : Int) 9218868437227405312) 4602678819172646912 := ⟨_, rfl⟩
  rw [← hg] at hfw
  rw [hqx, ← hfw]
  have H := Lib.hid h
  have HX := Lib.hid hx0
  have HM := Lib.hid km
  have HG := Lib.hid hg
  clear h0 h k1 k2 kq km hx0 hx hq ha hsg hqx hkm hfw hg har
  go_enter Try.func41, Try.ntmps41
  go_wp2_with (first | (go_at_call 44; go_in) | (go_at_call 32; refine (misnan_c _ HX.out _).mono ?_; rintro e w' ⟨rfl, rfl⟩) | (go_at_call 33; refine (misinf_c _ HX.out _).mono ?_; rintro e w' ⟨rfl, rfl⟩) | (go_at_call 39; refine (norm_lo s r k H.out HM.out _).mono ?_; rintro e w' ⟨rfl, rfl⟩))
  go_ret2
  exact ⟨ret_tup (by rw [HG.out]) (by omega), rfl⟩

/-- of every finite number but the zeros: the fraction's further digits are none for a power of two -/
theorem frexp_c (x : Nat) (hx : x < 18446744073709551616) (h0 : 0 < absW x) (h2 : absW x < 9218868437227405312) :
    ∃ t, t < 4503599627370496 ∧ (∀ u, absW x = pw u → t = 0) ∧ ∀ w, Calls Try.prog 41 #[.float .f64 x] w fun e w' => e = .returned (.tuple #[.float .f64 (wd (sgW x) (4602678819172646912 + t)), .int .i64 ((xp (absW x) : Int) - 1073)]) ∧ w = w' := by
  by_cases h1 : 4503599627370496 ≤ absW x
  · refine ⟨x % 4503599627370496, Nat.mod_lt _ (by decide), ?_, fun w => frexp_hi x hx h1 h2 w⟩
    intro u hu
    have ha : absW x = x % 9223372036854775808 := rfl
    unfold pw at hu
    by_cases h : u < 52
    · rw [if_pos h] at hu
      have : 2 ^ u < 2 ^ 52 := Nat.pow_lt_pow_right (by omega) h
      have e : (2 : Nat) ^ 52 = 4503599627370496 := by decide
      omega
    · rw [if_neg h] at hu
      omega
  · obtain ⟨k, k1, k2, kv, kq, km⟩ := small_up (sgW x) h0 (by omega)
    refine ⟨k % 4503599627370496, Nat.mod_lt _ (by decide), ?_, fun w => ?_⟩
    · intro u hu
      have e1 : val 52 k = 2 ^ (u + 52) := by
        rw [kv, Nat.pow_add]
        congr 1
        rw [hu] at h1 ⊢
        unfold pw at h1 ⊢
        by_cases h : u < 52
        · rw [if_pos h]
        · rw [if_neg h] at h1
          omega
      have e2 : k = pw (u + 52) := by rw [← val_inj (fb := 52), e1, pw_val]
      rw [e2]
      unfold pw
      rw [if_neg (by omega)]
      omega
    · have := frexp_lo (sgW x) (absW x) k h0 (by omega) k1 k2 kq km w
      rw [wd_self hx] at this
      exact this

theorem archLog_form (x : Nat) : ∃ rest : Sem Value, Extern.MathLog.archLog #[.float .f64 x] =
    (if (x % 2 ^ 63 == 0) = true then pure (.float .f64 Extern.MathAsm.negInf) else if x ≥ 2 ^ 63 then pure (.float .f64 Extern.MathAsm.nan) else if x ≥ Extern.MathAsm.posInf then pure (.float .f64 x) else rest) := ⟨_, rfl⟩

theorem log_zero (x : Nat) (h : x % 9223372036854775808 = 0) (w : World) : (callFunc 45 #[.float .f64 x]).run Try.prog w = .ok (.value (.float .f64 18442240474082181120)) w := by
  rw [run_callFunc_extern Try.func45 (e := Extern.MathLog.archLog) (by kernel_rfl) (by kernel_rfl) (by kernel_rfl) (by kernel_rfl)]
  obtain ⟨rest, hr⟩ := archLog_form x
  have g : (x % 2 ^ 63 == 0) = true := by simp only [beq_iff_eq]; exact h
  rw [hr, if_pos g]
  rfl
theorem log_neg (x : Nat) (h : ¬ x % 9223372036854775808 = 0) (h2 : 9223372036854775808 ≤ x) (w : World) : (callFunc 45 #[.float .f64 x]).run Try.prog w = .ok (.value (.float .f64 9221120237041090561)) w := by
  rw [run_callFunc_extern Try.func45 (e := Extern.MathLog.archLog) (by kernel_rfl) (by kernel_rfl) (by kernel_rfl) (by kernel_rfl)]
  obtain ⟨rest, hr⟩ := archLog_form x
  have g : ¬ (x % 2 ^ 63 == 0) = true := by simp only [beq_iff_eq]; exact h
  have g2 : x ≥ 2 ^ 63 := h2
  rw [hr, if_neg g, if_pos g2]
  rfl
theorem log_big (x : Nat) (h : 9218868437227405312 ≤ x) (h2 : x < 9223372036854775808) (w : World) : (callFunc 45 #[.float .f64 x]).run Try.prog w = .ok (.value (.float .f64 x)) w := by
  rw [run_callFunc_extern Try.func45 (e := Extern.MathLog.archLog) (by kernel_rfl) (by kernel_rfl) (by kernel_rfl) (by kernel_rfl)]
  obtain ⟨rest, hr⟩ := archLog_form x
  have g : ¬ (x % 2 ^ 63 == 0) = true := by simp only [beq_iff_eq]; show ¬ x % 9223372036854775808 = 0; omega
  have g2 : ¬ x ≥ 2 ^ 63 := by show ¬ x ≥ 9223372036854775808; omega
  have g3 : x ≥ Extern.MathAsm.posInf := h
  rw [hr, if_neg g, if_neg g2, if_pos g3]
  rfl

/-- a product and a sum with a NaN are none -/
theorem mul_nan_l {x : Nat} (y : Nat) (h : isN x = true) : Ieee.double.mul x y = none := by
  unfold Format.mul
  rw [read_nan dbl_e (isN_gt h)]
  cases Ieee.double.read y <;> rfl
theorem add_nan_l {x : Nat} (y : Nat) (h : isN x = true) : Ieee.double.add x y = none := by
  unfold Format.add
  rw [read_nan dbl_e (isN_gt h)]
  cases Ieee.double.read y <;> rfl

set_option maxRecDepth 100000 in
/-- Log2 behind Frexp where the fraction is not one half and its logarithm is a NaN -/
theorem log2_nanlog (x f l : Nat) (ex : Int) (hfr : ∀ w, Calls Try.prog 41 #[.float .f64 x] w fun e w' => e = .returned (.tuple #[.float .f64 f, .int .i64 ex]) ∧ w = w')
    (hne : (FloatKind.f64.format.order f 4602678819172646912 == some .eq) = false) (hlog : ∀ w, (callFunc 45 #[.float .f64 f]).run Try.prog w = .ok (.value (.float .f64 l)) w) (hl : isN l = true) (w : World) :
    Calls Try.prog 20 #[.float .f64 x] w (NanPost w) := by
  have hm := fun t w => run_mul_nan (P := Try.prog) (mul_nan_l 4609176140021203710 hl) t w
  have ha : ∀ y v t w, (binOp .add t (.float .f64 (nanR l 4609176140021203710 v)) (.float .f64 y)).run Try.prog w = .ok (.float .f64 (nanR (nanR l 4609176140021203710 v) y w)) w.drew := fun y v t w => run_add_nan (P := Try.prog) (add_nan_l y (nanR_isN _ _ _)) t w
  have HF := Lib.hid hfr
  clear hfr hl
  go_enter Try.func20, Try.ntmps20
  go_wp2_with (first | (go_at_call 28; go_in) | (go_at_call 37; go_in) | (go_at_call 42; go_in) | (go_at_call 41; refine (HF.out _).mono ?_; rintro e w' ⟨rfl, rfl⟩))
  go_ret
  exact ⟨_, nanR_isN _ _ _, nanR_lt _ _ _, rfl, (Grown.refl _).drew.drew⟩

theorem log2_nan (x : Nat) (hx : x < 18446744073709551616) (h : isN x = true ∨ 9223372036854775808 < x) (w : World) :
    Calls Try.prog 20 #[.float .f64 x] w (NanPost w) := by
  have hl : isN 9221120237041090561 = true := by decide
  by_cases hn : isN x = true
  · have hN : 9218868437227405312 < x % 9223372036854775808 := by unfold isN at hn; simpa using hn
    have hb : 9218868437227405312 ≤ absW x := by unfold absW; omega
    have ho : (FloatKind.f64.format.order x 4602678819172646912 == some .eq) = false := by rw [ord_nl _ hn]; rfl
    by_cases hs : 9223372036854775808 ≤ x
    · exact log2_nanlog x x 9221120237041090561 0 (fun w => frexp_not x hx hb w) ho (fun w => log_neg x (by omega) hs w) hl w
    · exact log2_nanlog x x x 0 (fun w => frexp_not x hx hb w) ho (fun w => log_big x (by omega) (by omega) w) hn w
  · have hn : isN x = false := by simpa using hn
    have hs : 9223372036854775808 < x := by
      rcases h with h | h
      · rw [hn] at h; cases h
      · exact h
    by_cases hf : absW x < 9218868437227405312
    · obtain ⟨t, ht, _, hc⟩ := frexp_c x hx (by unfold absW; omega) hf
      have hsg : sgW x = true := by unfold sgW; simp only [decide_eq_true_eq]; omega
      rw [hsg] at hc
      have hw : wd true (4602678819172646912 + t) = 9223372036854775808 + (4602678819172646912 + t) := by rw [wd_eq]; rfl
      rw [hw] at hc
      have ho : (FloatKind.f64.format.order (9223372036854775808 + (4602678819172646912 + t)) 4602678819172646912 == some .eq) = false := eq_ne (by omega) (by decide) (by decide) (by omega)
      exact log2_nanlog x _ 9221120237041090561 _ hc ho (fun w => log_neg _ (by omega) (by omega) w) hl w
    · have ho : (FloatKind.f64.format.order x 4602678819172646912 == some .eq) = false := eq_ne hx (by decide) (by decide) (by omega)
      exact log2_nanlog x x 9221120237041090561 0 (fun w => frexp_not x hx (by omega) w) ho (fun w => log_neg x (by unfold absW at hf; omega) (by omega) w) hl w

set_option maxRecDepth 100000 in
/-- Log2 of zeros and of the infinity -/
theorem log2_edge (x l : Nat) (hfr : ∀ w, Calls Try.prog 41 #[.float .f64 x] w fun e w' => e = .returned (.tuple #[.float .f64 x, .int .i64 0]) ∧ w = w')
    (hne : (FloatKind.f64.format.order x 4602678819172646912 == some .eq) = false) (hlog : ∀ w, (callFunc 45 #[.float .f64 x]).run Try.prog w = .ok (.value (.float .f64 l)) w) (hl : l = 9218868437227405312 ∨ l = 18442240474082181120) (w : World) :
    Calls Try.prog 20 #[.float .f64 x] w fun e w' => e = .returned (.float .f64 l) ∧ w = w' := by
  have e0 : floatOfInt .f64 0 = 0 := by decide +kernel
  have hm : ∀ t w, (binOp .mul t (.float .f64 l) (.float .f64 4609176140021203710)).run Try.prog w = .ok (.float .f64 l) w := by
    rcases hl with h | h
    · subst h; exact fun t w => run_mul_ok (P := Try.prog) (by decide +kernel) t w
    · subst h; exact fun t w => run_mul_ok (P := Try.prog) (by decide +kernel) t w
  have ha : ∀ t w, (binOp .add t (.float .f64 l) (.float .f64 0)).run Try.prog w = .ok (.float .f64 l) w := by
    rcases hl with h | h
    · subst h; exact fun t w => run_add_ok (P := Try.prog) (by decide +kernel) t w
    · subst h; exact fun t w => run_add_ok (P := Try.prog) (by decide +kernel) t w
  have HF := Lib.hid hfr
  clear hfr hl
  go_enter Try.func20, Try.ntmps20
  go_wp2_with (first | (go_at_call 28; go_in) | (go_at_call 37; go_in) | (go_at_call 42; go_in) | (go_at_call 41; refine (HF.out _).mono ?_; rintro e w' ⟨rfl, rfl⟩))
  go_ret
  exact ⟨rfl, rfl⟩

theorem log2_zero (x : Nat) (hx : x < 18446744073709551616) (h0 : absW x = 0) (w : World) :
    Calls Try.prog 20 #[.float .f64 x] w fun e w' => e = .returned (.float .f64 18442240474082181120) ∧ w = w' :=
  log2_edge x _ (fun w => frexp_zero x hx h0 w) (eq_ne hx (by decide) (by decide) (by unfold absW at h0; omega)) (fun w => log_zero x h0 w) (Or.inr rfl) w

theorem log2_inf (w : World) :
    Calls Try.prog 20 #[.float .f64 9218868437227405312] w fun e w' => e = .returned (.float .f64 9218868437227405312) ∧ w = w' :=
  log2_edge 9218868437227405312 _ (fun w => frexp_not _ (by decide) (by decide) w) (eq_ne (by decide) (by decide) (by decide) (by decide)) (fun w => log_big _ (by decide) (by decide) w) (Or.inl rfl) w

set_option maxRecDepth 100000 in
theorem log2_pow (u : Nat) (hu : u ≤ 2097) (w : World) :
    Calls Try.prog 20 #[.float .f64 (pw u)] w fun e w' => e = .returned (.float .f64 (floatOfInt .f64 ((u : Int) - 1074))) ∧ w = w' := by
  have hp := pw_bd hu
  have ha := pw_abs hu
  have h0 := pw_pos u
  obtain ⟨t, ht, hz, hc⟩ := frexp_c (pw u) (by omega) (by omega) (by omega)
  have ht0 := hz u ha
  subst ht0
  have hsg : sgW (pw u) = false := by unfold sgW; simp only [decide_eq_false_iff_not]; omega
  have hxp : xp (pw u) = u := xp_of (Nat.le_refl _) (pw_lt (by omega))
  have hw : wd false (4602678819172646912 + 0) = 4602678819172646912 := by rw [wd_eq]; rfl
  rw [hsg, ha, hxp, hw] at hc
  have ho : FloatKind.f64.format.order 4602678819172646912 4602678819172646912 = some .eq := by decide +kernel
  have HC := Lib.hid hc
  have hub : (u : Int) ≤ 2097 := by omega
  have HE : Hid ((u : Int) - 1073 - 1 = (u : Int) - 1074) := Lib.hid (by omega)
  clear hp ha h0 ht hz hsg hxp hw hc hu
  go_enter Try.func20, Try.ntmps20
  go_wp2_with (first | (go_at_call 28; go_in) | (go_at_call 37; go_in) | (go_at_call 41; refine (HC.out _).mono ?_; rintro e w' ⟨rfl, rfl⟩))
  go_ret
  exact ⟨ret_f64 (by rw [HE.out]), rfl⟩
end Go.Proofs.Ytalcfefnkjmdaaa
