/-
  Numbers made of a significand and a power of two, and taken apart again; contracts of the reference's Value and Bits.
-/
import Derived.Test.YtalcfefnkjmdaaaPow
import Derived.Test.YtalcfefnkjmdaaaSgl
import Derived.Deep.QuietTactic
import Derived.BigQuiet
import Derived.IntWalk
namespace Go.Proofs.Ytalcfefnkjmdaaa
open Ieee Num Go.RowKit

/-- a whole number of at most 53 digits as a word -/
theorem ofNat_word {m : Nat} (hm : m < 9007199254740992) : ∃ k, k < 9218868437227405312 ∧ floatOfInt .f64 (m : Int) = k ∧ val 52 k = m * 2 ^ Zp := by
  obtain ⟨k, hk⟩ := repr_val 52 m Zp hm
  have hz := Zp_eq
  have hK : k < 9218868437227405312 := by
    rw [← pw_top, ← val_lt_iff (fb := 52), hk, pw_val]
    have h1 : m * 2 ^ Zp < 2 ^ 53 * 2 ^ Zp := (Nat.mul_lt_mul_right (Nat.two_pow_pos _)).2 hm
    obtain ⟨t, ht⟩ : ∃ t : Nat, t = 2098 := ⟨_, rfl⟩
    rw [← ht]
    have h2 : (2 : Nat) ^ 53 * 2 ^ Zp ≤ 2 ^ t := by rw [← Nat.pow_add]; exact Nat.pow_le_pow_right (by omega) (by omega)
    exact Nat.lt_of_lt_of_le h1 h2
  refine ⟨k, hK, ?_, hk⟩
  show Ieee.double.nearest (decide ((m : Int) < 0)) (m : Int).natAbs 0 = k
  rw [nearest_eq, dbl_lp, dbl_inf, dbl_fb]
  have e1 : decide ((m : Int) < 0) = false := by simp only [decide_eq_false_iff_not]; omega
  have e2 : (0 - -1074 : Int).toNat = Zp := rfl
  have e3 : (-1074 - 0 : Int).toNat = 0 := rfl
  rw [e1, e2, e3, Int.natAbs_natCast, ← hk, rnd_val]
  have e4 : min k 9218868437227405312 = k := by omega
  rw [e4]
  rfl

/-- a significand times a power of two -/
theorem mulpow {m u k : Nat} (hm : m < 9007199254740992) (hu : u ≤ 2097) (hk : k < 9218868437227405312) (h : val 52 k = m * 2 ^ u) :
    Ieee.double.mul (floatOfInt .f64 (m : Int)) (pw u) = some k := by
  obtain ⟨j, hj, he, hv⟩ := ofNat_word hm
  rw [he]
  refine mul_exact hj (pw_bd hu) hk ?_
  rw [hv, pw_val, h, Nat.mul_assoc, Nat.mul_assoc, Nat.mul_comm (2 ^ Zp)]

/-- and divided by it again, as a whole number -/
theorem divpow {r m u : Nat} (hr : r < 9218868437227405312) (hu : u ≤ 2097) (hm : m < 9007199254740992) (h : val 52 r = m * 2 ^ u) :
    Ieee.double.div r (pw u) = some (floatOfInt .f64 (m : Int)) ∧ floatToIntVal .f64 (floatOfInt .f64 (m : Int)) .u64 = some (m : Int) := by
  obtain ⟨j, hj, he, hv⟩ := ofNat_word hm
  rw [he]
  constructor
  · refine div_exact hr hu hj ?_
    rw [h, hv, Nat.mul_assoc, Nat.mul_assoc, Nat.mul_comm (2 ^ Zp)]
  · unfold floatToIntVal
    have e : (FloatKind.f64.decode j).toInt .zero = some (m : Int) := by
      show (Ieee.double.read j).toInt .zero = _
      rw [toInt_fin dbl_e dbl_lp0 (fin_small hj), sg_small hj, rg_small hj, lpN, dbl_fb, hv, Nat.mul_div_cancel _ (Nat.two_pow_pos _)]
      rfl
    rw [e]
    dsimp only
    rw [if_pos]
    have a : IntKind.u64.min = 0 := rfl
    have b : IntKind.u64.max = 18446744073709551615 := rfl
    rw [a, b]
    omega

theorem quiet_same {P : Program} {f : FuncId} {args : Array Value} {w : World} {n : Nat} {v : Value}
    (h : Calls P f args (w.drewN n) fun e w' => e = .returned v ∧ w.drewN n = w') : Calls P f args (w.drewN n) fun e w'' => e = .returned v ∧ ∃ m, w'' = w.drewN m :=
  Calls.quiet_of_same (h.mono fun _ _ ⟨a, b⟩ => ⟨a, b.symm⟩)

theorem grown_drewN {a w : World} (n : Nat) (h : Grown a w) : Grown a (w.drewN n) := h

/-- some NaN comes back -/
def NanPost (w : World) (e : Ending) (w' : World) : Prop := ∃ r, isN r = true ∧ r < 18446744073709551616 ∧ e = .returned (.float .f64 r) ∧ Grown w w'

theorem number_c (w : World) :
    Calls Try.prog 30 #[] w fun e w' => e = .returned (.float .f64 (nanR 0 0 w)) ∧ w.drew = w' := by
  have h1 := fun t w => run_div_nan (P := Try.prog) (x := 0) (y := 0) (by decide +kernel) t w
  go_enter Try.func30, Try.ntmps30
  go_wp2
  go_ret
  exact ⟨rfl, rfl⟩
theorem power_u (e : Int) (u : Nat) (h : e + 1074 = (u : Int)) (hu : u ≤ 2097) (w : World) :
    Calls Try.prog 17 #[.int .i64 e] w fun en w' => en = .returned (.float .f64 (pw u)) ∧ w = w' := by
  have := power_c e (by omega) (by omega) w
  rw [show (e + 1074).toNat = u by omega] at this
  exact this
theorem infinite_w (n : Bool) (w : World) :
    Calls Try.prog 29 #[.bool n] w fun e w' => e = .returned (.float .f64 (wd n 9218868437227405312)) ∧ w = w' := by
  rw [wd_eq]
  exact infinite_c n w
theorem finite_yes (x : Nat) (h : absW x < 9218868437227405312) (w : World) :
    Calls Try.prog 15 #[.float .f64 x] w fun e w' => e = .returned (.bool true) ∧ w = w' := by
  have h1 := fun t w => run_sub_ok (P := Try.prog) (sub_self_fin (x := x) h) t w
  have h2 := ord0_pz
  clear h
  go_enter Try.func15, Try.ntmps15
  go_wp2
  go_ret
  exact ⟨rfl, rfl⟩
theorem finite_no (x : Nat) (h : 9218868437227405312 ≤ absW x) (w : World) :
    Calls Try.prog 15 #[.float .f64 x] w fun e w' => e = .returned (.bool false) ∧ w.drew = w' := by
  have h1 := fun t w => run_sub_nan (P := Try.prog) (sub_self_not (x := x) h) t w
  have h2 : ∀ w, FloatKind.f64.format.order (nanR x x w) 0 = none := fun w => ord_nl 0 (nanR_isN x x w)
  clear h
  go_enter Try.func15, Try.ntmps15
  go_wp2
  go_ret
  exact ⟨rfl, rfl⟩
theorem ret_int {k : IntKind} {a b : Int} (h : a = b) : Ending.returned (.int k a) = .returned (.int k b) := by rw [h]
theorem ne_zero {x : Nat} (hx : x < 18446744073709551616) (hn : isN x = false) (h : 0 < absW x) : (FloatKind.f64.format.order x 0 == some .eq) = false := by
  unfold absW at h
  by_cases hs : 9223372036854775808 ≤ x
  · rw [ord0_lt hx hn (by omega)]; rfl
  · rw [ord0_gt hn (by omega) (by omega)]; rfl
end Go.Proofs.Ytalcfefnkjmdaaa
