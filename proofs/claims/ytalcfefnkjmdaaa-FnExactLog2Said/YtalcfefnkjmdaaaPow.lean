/-
  Powers of two as words of 64 bits; twice and half of them; the exponent of a finite number.
-/
import Derived.Test.YtalcfefnkjmdaaaBas
import Derived.LoopTactic
namespace Go.Proofs.Ytalcfefnkjmdaaa
open Ieee Num Go.RowKit

/-- the word of 2 ^ (u - 1074) -/
def pw (u : Nat) : Nat := if u < 52 then 2 ^ u else 4503599627370496 * (u - 51)

theorem pw_val (u : Nat) : val 52 (pw u) = 2 ^ u := by
  unfold pw
  by_cases h : u < 52
  · rw [if_pos h]
    exact val_low (Nat.pow_lt_pow_right (by omega) h)
  · rw [if_neg h]
    exact val_binade' (u - 52) (by show 4503599627370496 * (u - 51) = 4503599627370496 * (u - 52 + 1); congr 1; omega) (by omega)

theorem pw_lt {u v : Nat} (h : u < v) : pw u < pw v := by
  rw [← val_lt_iff (fb := 52), pw_val, pw_val]
  exact Nat.pow_lt_pow_right (by omega) h
theorem pw_le {u v : Nat} (h : u ≤ v) : pw u ≤ pw v := by
  rw [← Nat.not_lt, ← val_lt_iff (fb := 52), pw_val, pw_val]
  intro h2
  have := Nat.pow_le_pow_right (n := 2) (by omega) h
  omega
theorem pw_top : pw 2098 = 9218868437227405312 := by unfold pw; decide
theorem pw_bd {u : Nat} (h : u ≤ 2097) : pw u < 9218868437227405312 := by
  rw [← pw_top]
  exact pw_lt (by omega)
theorem pw_pos (u : Nat) : 0 < pw u := by
  rw [← val_lt_iff (fb := 52), pw_val, val_zero]
  exact Nat.two_pow_pos u
theorem pw_one : pw 1074 = 4607182418800017408 := by unfold pw; decide
theorem pw_two : pw 1075 = 4611686018427387904 := by unfold pw; decide
theorem pw_min : pw 0 = 1 := by unfold pw; decide
theorem pw_nan {u : Nat} (h : u ≤ 2097) : isN (pw u) = false := by
  have := pw_bd h
  unfold isN
  simp only [decide_eq_false_iff_not]
  omega
theorem pw_abs {u : Nat} (h : u ≤ 2097) : absW (pw u) = pw u := by
  have := pw_bd h
  unfold absW
  omega

theorem rg_small {k : Nat} (h : k < 9218868437227405312) : rg Ieee.double k = k := by rw [rg64]; omega
theorem fin_small {k : Nat} (h : k < 9218868437227405312) : rg Ieee.double k < Ieee.double.infRung := by rw [rg_small h, dbl_inf]; exact h
theorem sg_small {k : Nat} (h : k < 9218868437227405312) : sg Ieee.double k = false := by
  rw [sg64 (by omega)]
  unfold sgW
  simp only [decide_eq_false_iff_not]
  omega
/-- how many places lie below the units' -/
def Zp : Nat := 1074
theorem Zp_eq : Zp = 1074 := rfl
theorem lpN : (-Ieee.double.leastPlace).toNat = Zp := by rw [dbl_lp]; rfl

/-- a product of two finite words without signs, exact -/
theorem mul_exact {x y k : Nat} (hx : x < 9218868437227405312) (hy : y < 9218868437227405312) (hk : k < 9218868437227405312) (h : val 52 x * val 52 y = val 52 k * 2 ^ Zp) :
    Ieee.double.mul x y = some k := by
  rw [mul_fin dbl_e dbl_lp0 (fin_small hx) (fin_small hy), rg_small hx, rg_small hy, sg_small hx, sg_small hy, lpN, dbl_fb, dbl_inf, rnd_exact h]
  have e : min k 9218868437227405312 = k := by omega
  rw [e]
  rfl
/-- a product with a power of two, its sign kept -/
theorem mul_exact_s {x y k : Nat} {s : Bool} (hx : x < 9218868437227405312) (hy : y < 9218868437227405312) (hk : k < 9218868437227405312) (h : val 52 x * val 52 y = val 52 k * 2 ^ Zp) :
    Ieee.double.mul (wd s x) y = some (wd s k) := by
  have hr : rg Ieee.double (wd s x) = x := by
    have := wd_abs (s := s) (k := x) (by omega)
    unfold absW at this
    rw [rg64]
    exact this
  have hs : sg Ieee.double (wd s x) = s := by rw [sg64 (wd_lt (by omega)), wd_sg (by omega)]
  rw [mul_fin dbl_e dbl_lp0 (by rw [hr, dbl_inf]; exact hx) (fin_small hy), hr, rg_small hy, hs, sg_small hy, lpN, dbl_fb, dbl_inf, rnd_exact h, Bool.xor_false]
  have e : min k 9218868437227405312 = k := by omega
  rw [e]
  rfl
/-- a quotient by a power of two, exact -/
theorem div_exact {x u k : Nat} (hx : x < 9218868437227405312) (hu : u ≤ 2097) (hk : k < 9218868437227405312) (h : val 52 x * 2 ^ Zp = val 52 k * 2 ^ u) :
    Ieee.double.div x (pw u) = some k := by
  have hp := pw_bd hu
  rw [div_pow2 dbl_e dbl_lp0 (u := u) (fin_small hx) (fin_small hp) (by rw [rg_small hp]; exact pw_val u), rg_small hx, sg_small hx, sg_small hp, lpN, dbl_fb, dbl_inf, rnd_exact h]
  have e : min k 9218868437227405312 = k := by omega
  rw [e]
  rfl

theorem pw_twice {u : Nat} (h : u < 2097) : Ieee.double.mul (pw u) 4611686018427387904 = some (pw (u + 1)) := by
  rw [← pw_two]
  refine mul_exact (pw_bd (by omega)) (pw_bd (by omega)) (pw_bd (by omega)) ?_
  rw [pw_val, pw_val, pw_val]
  have hz := Zp_eq
  rw [show (1075 : Nat) = Zp + 1 by omega, ← Nat.pow_add, ← Nat.pow_add]
  congr 1
theorem pw_half {u : Nat} (h : u < 2097) : Ieee.double.div (pw (u + 1)) 4611686018427387904 = some (pw u) := by
  rw [← pw_two]
  refine div_exact (pw_bd (by omega)) (by omega) (pw_bd (by omega)) ?_
  rw [pw_val, pw_val]
  have hz := Zp_eq
  rw [show (1075 : Nat) = Zp + 1 by omega, ← Nat.pow_add, ← Nat.pow_add]
  congr 1

/-- the binary exponent, counted from the last place -/
def xp (r : Nat) : Nat := (val 52 r).log2

theorem xp_of {r u : Nat} (h1 : pw u ≤ r) (h2 : r < pw (u + 1)) : xp r = u := by
  have hv1 : 2 ^ u ≤ val 52 r := by rw [← pw_val]; exact val_le h1
  have hv2 : val 52 r < 2 ^ (u + 1) := by rw [← pw_val]; exact val_lt h2
  have h0 : val 52 r ≠ 0 := by have := Nat.two_pow_pos u; omega
  unfold xp
  have a := (Nat.le_log2 h0 (k := u)).2 hv1
  have b := (Nat.log2_lt h0 (k := u + 1)).2 hv2
  omega

theorem val_succ (fb r : Nat) : val fb (r + 1) = val fb r + 2 ^ pl fb r := by
  have hpos := Nat.two_pow_pos fb
  by_cases h : r + 1 < 2 ^ fb
  · rw [val_low h, val_low (by omega), pl_low (by omega)]
  · by_cases h2 : r < 2 ^ fb
    · have e : r + 1 = 2 ^ fb * (0 + 1) := by omega
      rw [pl_low h2, val_low h2, e, val_binade, Nat.add_zero]
      omega
    · have hq : 1 ≤ r / 2 ^ fb := by
        rw [Nat.le_div_iff_mul_le hpos]
        omega
      have hd := Nat.div_add_mod r (2 ^ fb)
      have hm := Nat.mod_lt r hpos
      obtain ⟨q, hq'⟩ : ∃ q, r / 2 ^ fb = q + 1 := ⟨r / 2 ^ fb - 1, by omega⟩
      have hp : pl fb r = q := by unfold pl; omega
      rw [hq'] at hd
      by_cases ht : r % 2 ^ fb + 1 = 2 ^ fb
      · have e : r + 1 = 2 ^ fb * (q + 1 + 1) := by
          rw [Nat.mul_add _ (q + 1) 1]
          omega
        rw [e, val_binade, hp]
        unfold val
        rw [mg_high (by omega), hp]
        have e2 : 2 ^ fb + r % 2 ^ fb = 2 * 2 ^ fb - 1 := by omega
        rw [e2]
        have e3 : 2 ^ (fb + (q + 1)) = 2 * 2 ^ fb * 2 ^ q := by
          rw [show fb + (q + 1) = 1 + fb + q by omega, Nat.pow_add, Nat.pow_add, Nat.pow_one]
        rw [e3, ← Nat.succ_mul]
        congr 1
        omega
      · have d1 : (r + 1) / 2 ^ fb = q + 1 := by
          rw [← hd, Nat.add_assoc, Nat.mul_add_div hpos, Nat.div_eq_of_lt (by omega), Nat.add_zero]
        have d2 : (r + 1) % 2 ^ fb = r % 2 ^ fb + 1 := by
          conv => lhs; rw [← hd]
          rw [Nat.add_assoc, Nat.mul_add_mod, Nat.mod_eq_of_lt (by omega)]
        have hp2 : pl fb (r + 1) = q := by unfold pl; omega
        unfold val
        rw [mg_high (by omega), mg_high (by omega), hp, hp2, d2, ← Nat.add_assoc, Nat.succ_mul]

theorem sv_small {k : Nat} (h : k < 9218868437227405312) : sv Ieee.double k = (val 52 k : Int) := by
  unfold sv
  rw [sg_small h, rg_small h]
  rfl

theorem sum_pos {u v : Int} (s t : Bool) {k : Nat} (hk : k < 9218868437227405312) (h : 0 < u + v) (hr : rnd 52 (u + v).natAbs 0 = k) : sumWord Ieee.double s t u v = k := by
  unfold sumWord
  rw [if_neg (by omega), dbl_inf, dbl_fb, hr]
  have e : decide (u + v < 0) = false := by simp only [decide_eq_false_iff_not]; omega
  have e2 : min k 9218868437227405312 = k := by omega
  rw [e, e2]
  rfl

/-- half of the way to the next number, and back. -/
theorem next_mid {b : Nat} (hb : b < 9218868437227405311) : ∃ d h, Ieee.double.sub (b + 1) b = some d ∧ Ieee.double.div d 4611686018427387904 = some h ∧ (Ieee.double.add b h = some b ∨ Ieee.double.add b h = some (b + 1)) := by
  have hb1 : b + 1 < 9218868437227405312 := by omega
  have hb0 : b < 9218868437227405312 := by omega
  have hs := val_succ 52 b
  obtain ⟨d, hd⟩ := repr_val 52 1 (pl 52 b) (by decide)
  rw [Nat.one_mul] at hd
  have hdK : d < 9218868437227405312 := by
    have h1 : val 52 d ≤ val 52 (b + 1) := by omega
    have : d ≤ b + 1 := by
      apply Nat.le_of_not_lt
      intro h2
      have := val_lt (fb := 52) h2
      omega
    omega
  have hpos := Nat.two_pow_pos (pl 52 b)
  have h1 : Ieee.double.sub (b + 1) b = some d := by
    rw [sub_fin dbl_e (fin_small hb1) (fin_small hb0), sv_small hb1, sv_small hb0]
    congr 1
    refine sum_pos _ _ hdK (by omega) ?_
    rw [show ((val 52 (b + 1) : Int) + -(val 52 b : Int)).natAbs = val 52 d by omega, rnd_val]
  obtain ⟨u, hu⟩ : ∃ u : Nat, u = 1075 := ⟨_, rfl⟩
  have hp := pw_bd (u := u) (by omega)
  have hpt : pw u = 4611686018427387904 := by rw [hu]; exact pw_two
  obtain ⟨h, hh⟩ : ∃ h, h = rnd 52 (val 52 d * 2 ^ Zp) u := ⟨_, rfl⟩
  have hz := Zp_eq
  have hle : h ≤ d := by
    rw [hh]
    apply rnd_le_of
    exact Nat.mul_le_mul_left _ (Nat.pow_le_pow_right (by omega) (by omega))
  have hhK : h < 9218868437227405312 := by omega
  have h2 : Ieee.double.div d 4611686018427387904 = some h := by
    rw [← hpt, div_pow2 dbl_e dbl_lp0 (u := u) (fin_small hdK) (fin_small hp) (by rw [rg_small hp]; exact pw_val u), rg_small hdK, sg_small hdK, sg_small hp, lpN, dbl_fb, dbl_inf, ← hh]
    have e2 : min h 9218868437227405312 = h := by omega
    rw [e2]
    rfl
  refine ⟨d, h, h1, h2, ?_⟩
  have hvle : val 52 h ≤ val 52 d := val_le hle
  rw [add_fin dbl_e (fin_small hb0) (fin_small hhK), sv_small hb0, sv_small hhK, sg_small hb0, sg_small hhK]
  by_cases hzero : val 52 b + val 52 h = 0
  · left
    have e0 : b = 0 := by
      apply Classical.byContradiction
      intro hne
      have := val_pos (fb := 52) (r := b) (by omega)
      omega
    subst e0
    unfold sumWord
    rw [if_pos (by omega), show ((val 52 0 : Int) + (val 52 h : Int)).natAbs = 0 by omega, rnd_zero, Nat.zero_min]
    rfl
  · obtain ⟨m, hm⟩ : ∃ m, m = rnd 52 (val 52 b + val 52 h) 0 := ⟨_, rfl⟩
    have lo : b ≤ m := by rw [hm]; exact rnd_ge_of (by rw [Nat.pow_zero, Nat.mul_one]; omega)
    have hi : m ≤ b + 1 := by rw [hm]; exact rnd_le_of (by rw [Nat.pow_zero, Nat.mul_one]; omega)
    have e : sumWord Ieee.double false false (val 52 b) (val 52 h) = m := by
      refine sum_pos _ _ (by omega) (by omega) ?_
      rw [show ((val 52 b : Int) + (val 52 h : Int)).natAbs = val 52 b + val 52 h by omega, ← hm]
    rw [e]
    by_cases hmb : m = b
    · left; rw [hmb]
    · right; rw [show m = b + 1 by omega]

set_option maxHeartbeats 400000 in
theorem power_up (n : Nat) (hn : n ≤ 1023) (w : World) :
    Calls Try.prog 17 #[.int .i64 (n : Int)] w fun e w' => e = .returned (.float .f64 (pw (1074 + n))) ∧ w = w' := by
  have HO := Lib.hid pw_one
  go_enter Try.func17, Try.ntmps17
  go_wp2
  go_loop [3, 4] (fun x i => ∃ k : Nat, k ≤ n ∧ i = .int .i64 k ∧ x = .float .f64 (pw (1074 + k))) (fun _ i => n - (intOf i).toNat)
  case atStart => exact ⟨0, Nat.zero_le _, rfl, by rw [Nat.add_zero, HO.out]⟩
  case round =>
    obtain ⟨k, hk, rfl, rfl⟩ := hrel
    by_cases hlt : k < n
    · have h1 := fun t w => run_mul_ok (P := Try.prog) (pw_twice (u := 1074 + k) (by omega)) t w
      go_wp2
      go_round
      case rel => exact ⟨k + 1, by omega, by go_num, rfl⟩
      case measure => simp [intOf]; omega
    · obtain rfl : k = n := by omega
      go_wp2
      go_loop [3, 5] (fun x i => i = .int .i64 0 ∧ x = .float .f64 (pw (1074 + k))) (fun _ _ => 0)
      case atStart => exact ⟨rfl, rfl⟩
      case round =>
        obtain ⟨rfl, rfl⟩ := hrel
        have hge : ¬ (k : Int) < 0 := by omega
        go_wp2
        go_ret
        exact ⟨rfl, rfl⟩

set_option maxHeartbeats 400000 in
theorem power_down (n : Nat) (h0 : 0 < n) (hn : n ≤ 1074) (w : World) :
    Calls Try.prog 17 #[.int .i64 (-(n : Int))] w fun e w' => e = .returned (.float .f64 (pw (1074 - n))) ∧ w = w' := by
  have HO := Lib.hid pw_one
  have hneg : ¬ 0 < -(n : Int) := by omega
  go_enter Try.func17, Try.ntmps17
  go_wp2
  go_loop [3, 4] (fun x i => i = .int .i64 0 ∧ x = .float .f64 4607182418800017408) (fun _ _ => 0)
  case atStart => exact ⟨rfl, rfl⟩
  case round =>
    obtain ⟨rfl, rfl⟩ := hrel
    go_wp2
    go_loop [3, 5] (fun x i => ∃ k : Nat, k ≤ n ∧ i = .int .i64 (-(k : Int)) ∧ x = .float .f64 (pw (1074 - k))) (fun _ i => n - (-(intOf i)).toNat)
    case atStart => exact ⟨0, Nat.zero_le _, rfl, by rw [Nat.sub_zero, HO.out]⟩
    case round =>
      obtain ⟨k, hk, rfl, rfl⟩ := hrel
      by_cases hlt : k < n
      · have h1 := fun t w => run_div_ok (P := Try.prog) (pw_half (u := 1074 - k - 1) (by omega)) t w
        have e1 : 1074 - k - 1 + 1 = 1074 - k := by omega
        rw [e1] at h1
        have hlt' : -(n : Int) < -(k : Int) := by omega
        clear e1
        go_wp2
        go_round
        case rel => exact ⟨k + 1, by omega, by go_num, by rw [show 1074 - (k + 1) = 1074 - k - 1 by omega]⟩
        case measure => simp [intOf]; omega
      · obtain rfl : k = n := by omega
        go_wp2
        go_ret
        exact ⟨rfl, rfl⟩

theorem power_c (e : Int) (h1 : -1074 ≤ e) (h2 : e ≤ 1023) (w : World) :
    Calls Try.prog 17 #[.int .i64 e] w fun en w' => en = .returned (.float .f64 (pw (e + 1074).toNat)) ∧ w = w' := by
  by_cases h : 0 ≤ e
  · obtain ⟨n, rfl⟩ : ∃ n : Nat, e = (n : Int) := ⟨e.toNat, by omega⟩
    have e1 : ((n : Int) + 1074).toNat = 1074 + n := by omega
    rw [e1]
    exact power_up n (by omega) w
  · obtain ⟨n, rfl⟩ : ∃ n : Nat, e = -(n : Int) := ⟨(-e).toNat, by omega⟩
    have e1 : (-(n : Int) + 1074).toNat = 1074 - n := by omega
    rw [e1]
    exact power_down n (by omega) (by omega) w

set_option maxHeartbeats 400000 in
theorem exponent_c (x : Nat) (hx : x < 18446744073709551616) (h0 : 0 < absW x) (hf : absW x < 9218868437227405312) (w : World) :
    Calls Try.prog 23 #[.float .f64 x] w fun en w' => en = .returned (.int .i64 ((xp (absW x) : Int) - 1074)) ∧ w = w' := by
  have hn : isN x = false := by
    unfold isN
    unfold absW at hf
    simp only [decide_eq_false_iff_not]
    omega
  have hz : szW x = absW x := by unfold szW; rw [hn]; rfl
  have H := Lib.hid hx
  have H0 := Lib.hid h0
  have HF := Lib.hid hf
  have HM := Lib.hid pw_min
  clear hx h0 hf hn
  go_enter Try.func23, Try.ntmps23
  go_wp2_with (first | (go_at_call 16; refine (size_c _ H.out _).mono ?_; rintro e w' ⟨rfl, rfl⟩) | (go_at_call 17; refine (power_c (-1074) (by decide) (by decide) _).mono ?_; rintro e w' ⟨rfl, rfl⟩))
  go_loop [4, 5] (fun e p => ∃ u : Nat, u ≤ 2097 ∧ pw u ≤ absW x ∧ e = .int .i64 ((u : Int) - 1074) ∧ p = .float .f64 (pw u)) (fun e _ => 2097 - (intOf e + 1074).toNat)
  case atStart => exact ⟨0, Nat.zero_le _, by rw [HM.out]; exact H0.out, rfl, rfl⟩
  case round =>
    obtain ⟨u, hu, hle, rfl, rfl⟩ := hrel
    have HLE := Lib.hid hle
    clear hle
    by_cases hlt : u < 2097
    · have hi : (u : Int) - 1074 < 1023 := by omega
      have hm := fun t w => run_mul_ok (P := Try.prog) (pw_twice hlt) t w
      by_cases hc : pw (u + 1) ≤ absW x
      · have ho := ord_le (Nat.le_of_lt (pw_bd (u := u + 1) (by omega))) (Nat.le_of_lt HF.out) hc
        have HC := Lib.hid hc
        clear hc
        rcases ho with ho | ho
        all_goals
          go_wp2
          go_round
          case rel => exact ⟨u + 1, by omega, HC.out, by go_num, rfl⟩
          case measure => simp [intOf]; omega
      · have ho := ord_gtw (Nat.le_of_lt (pw_bd (u := u + 1) (by omega))) (Nat.le_of_lt HF.out) (by omega)
        have HC := Lib.hid hc
        clear hc
        go_wp2
        go_ret
        exact ⟨by rw [xp_of HLE.out (by have := HC.out; omega)]; rfl, rfl⟩
    · obtain rfl : u = 2097 := by omega
      go_wp2
      go_ret
      exact ⟨by rw [xp_of HLE.out (by rw [pw_top]; exact HF.out)]; rfl, rfl⟩
end Go.Proofs.Ytalcfefnkjmdaaa
