/-
  Numbers made of a significand and a power of two, and taken apart again; contracts of the reference's Value and Bits.
-/
import Derived.Test.YtfjophnfjfphgaaPow
import Derived.Test.YtfjophnfjfphgaaSgl
import Derived.Deep.QuietTactic
import Derived.BigQuiet
import Derived.IntWalk
namespace Go.Proofs.Ytfjophnfjfphgaa
open Ieee Num Go.RowKit

/-- a whole number of at most 53 digits as a word -/
theorem ofNat_word {m : Nat} (hm : m < 9007199254740992) : ∃ k, k < 9218868437227405312 ∧ floatOfInt .f64 (m : Int) = k ∧ val 52 k = m * 2 ^ Zp := by
  obtain ⟨k, hk⟩ := repr_val 52 m Zp hm
  have hz := Zp_eq
  have hK : k < 9218868437227405312 := by
    rw [← pw_top, ← val_lt_iff (fb := 52), hk, pw_val]
    have h1 : m * 2 ^ Zp < 2 ^ 53 * 2 ^ Zp := (Nat.mul_lt_mul_right (Nat.two_pow_pos _)).2 hm
    obtain ⟨t, ht⟩ : ∃ t : Nat, t = 2098 := ⟨_, rfl⟩
    rw [← ht]
    have h2 : (2 : Nat) ^ 53 * 2 ^ Zp ≤ 2 ^ t := by rw [← Nat.pow_add]; exact Nat.pow_le_pow_right (by omega) (by omega)
    exact Nat.lt_of_lt_of_le h1 h2
  refine ⟨k, hK, ?_, hk⟩
  show Ieee.double.nearest (decide ((m : Int) < 0)) (m : Int).natAbs 0 = k
  rw [nearest_eq, dbl_lp, dbl_inf, dbl_fb]
  have e1 : decide ((m : Int) < 0) = false := by simp only [decide_eq_false_iff_not]; omega
  have e2 : (0 - -1074 : Int).toNat = Zp := rfl
  have e3 : (-1074 - 0 : Int).toNat = 0 := rfl
  rw [e1, e2, e3, Int.natAbs_natCast, ← hk, rnd_val]
  have e4 : min k 9218868437227405312 = k := by omega
  rw [e4]
  rfl

/-- a significand times a power of two -/
theorem mulpow {m u k : Nat} (hm : m < 9007199254740992) (hu : u ≤ 2097) (hk : k < 9218868437227405312) (h : val 52 k = m * 2 ^ u) :
    Ieee.double.mul (floatOfInt .f64 (m : Int)) (pw u) = some k := by
  obtain ⟨j, hj, he, hv⟩ := ofNat_word hm
  rw [he]
  refine mul_exact hj (pw_bd hu) hk ?_
  rw [hv, pw_val, h, Nat.mul_assoc, Nat.mul_assoc, Nat.mul_comm (2 ^ Zp)]

/-- and divided by it again, as a whole number -/
theorem divpow {r m u : Nat} (hr : r < 9218868437227405312) (hu : u ≤ 2097) (hm : m < 9007199254740992) (h : val 52 r = m * 2 ^ u) :
    Ieee.double.div r (pw u) = some (floatOfInt .f64 (m : Int)) ∧ floatToIntVal .f64 (floatOfInt .f64 (m : Int)) .u64 = some (m : Int) := by
  obtain ⟨j, hj, he, hv⟩ := ofNat_word hm
  rw [he]
  constructor
  · refine div_exact hr hu hj ?_
    rw [h, hv, Nat.mul_assoc, Nat.mul_assoc, Nat.mul_comm (2 ^ Zp)]
  · unfold floatToIntVal
    have e : (FloatKind.f64.decode j).toInt .zero = some (m : Int) := by
      show (Ieee.double.read j).toInt .zero = _
      rw [toInt_fin dbl_e dbl_lp0 (fin_small hj), sg_small hj, rg_small hj, lpN, dbl_fb, hv, Nat.mul_div_cancel _ (Nat.two_pow_pos _)]
      rfl
    rw [e]
    dsimp only
    rw [if_pos]
    have a : IntKind.u64.min = 0 := rfl
    have b : IntKind.u64.max = 18446744073709551615 := rfl
    rw [a, b]
    omega

theorem quiet_same {P : Program} {f : FuncId} {args : Array Value} {w : World} {n : Nat} {v : Value}
    (h : Calls P f args (w.drewN n) fun e w' => e = .returned v ∧ w.drewN n = w') : Calls P f args (w.drewN n) fun e w'' => e = .returned v ∧ ∃ m, w'' = w.drewN m :=
  Calls.quiet_of_same (h.mono fun _ _ ⟨a, b⟩ => ⟨a, b.symm⟩)

theorem grown_drewN {a w : World} (n : Nat) (h : Grown a w) : Grown a (w.drewN n) := h

/-- some NaN comes back -/
def NanPost (w : World) (e : Ending) (w' : World) : Prop := ∃ r, isN r = true ∧ r < 18446744073709551616 ∧ e = .returned (.float .f64 r) ∧ Grown w w'

theorem number_c (w : World) :
    Calls Try.prog 35 #[] w fun e w' => e = .returned (.float .f64 (nanR 0 0 w)) ∧ w.drew = w' := by
  have h1 := fun t w => run_div_nan (P := Try.prog) (x := 0) (y := 0) (by decide +kernel) t w
  go_enter Try.func35, Try.ntmps35
  go_wp2
  go_ret
  exact ⟨rfl, rfl⟩
theorem power_u (e : Int) (u : Nat) (h : e + 1074 = (u : Int)) (hu : u ≤ 2097) (w : World) :
    Calls Try.prog 34 #[.int .i64 e] w fun en w' => en = .returned (.float .f64 (pw u)) ∧ w = w' := by
  have := power_c e (by omega) (by omega) w
  rw [show (e + 1074).toNat = u by omega] at this
  exact this
theorem infinite_w (n : Bool) (w : World) :
    Calls Try.prog 36 #[.bool n] w fun e w' => e = .returned (.float .f64 (wd n 9218868437227405312)) ∧ w = w' := by
  rw [wd_eq]
  exact infinite_c n w
theorem signed_w (k : Nat) (s : Bool) (hk : k < 9218868437227405312) (w : World) :
    Calls Try.prog 37 #[.float .f64 k, .bool s] w fun e w' => e = .returned (.float .f64 (wd s k)) ∧ w = w' := by
  have e : (if s = true then negW (szW k) else szW k) = wd s k := by
    have hn : isN k = false := by unfold isN; simp only [decide_eq_false_iff_not]; omega
    have hz : szW k = k := by unfold szW absW; rw [hn]; simp only [Bool.false_eq_true, if_false]; omega
    rw [hz, wd_eq]
    unfold negW
    rw [if_neg (show ¬ 9223372036854775808 ≤ k by omega), Nat.add_comm]
  have := signed_c k s (by omega) w
  rw [e] at this
  exact this
/-- the places of the least powers, counted from the last one -/
def U64 : Nat := 0
def U32 : Nat := 925

set_option maxHeartbeats 400000 in
theorem value64_nan (b : Nat) (he : b / 4503599627370496 % 2048 = 2047) (hf : ¬ b % 4503599627370496 = 0) (w : World) :
    Calls Try.prog 28 #[.int .u64 (b : Int), .int .i64 11, .int .i64 52] w (NanPost w) := by
  obtain ⟨q, hq⟩ : ∃ q, q = b / 4503599627370496 % 2048 := ⟨_, rfl⟩
  obtain ⟨t, ht⟩ : ∃ t, t = b % 4503599627370496 := ⟨_, rfl⟩
  have ge : (b : Int) / 4503599627370496 % 2048 = (q : Int) := by omega
  have gt : (b : Int) % 4503599627370496 = (t : Int) := by omega
  have g1 : ((q : Int) == 2047) = true := by simp only [beq_iff_eq]; omega
  have g2 : ((t : Int) != 0) = true := by simp only [bne_iff_ne, ne_eq]; omega
  clear he hf hq ht
  go_enter Try.func28, Try.ntmps28
  go_wp2_with fail
  go_quiet (fail)
  go_wp2_with fail
  refine (number_c _).mono ?_
  rintro e w' ⟨rfl, rfl⟩
  go_wp2_with fail
  go_ret
  exact ⟨_, nanR_isN _ _ _, nanR_lt _ _ _, rfl, grown_drewN nq (Grown.refl w)⟩

set_option maxHeartbeats 400000 in
theorem value64_inf (b : Nat) (hb : b < 18446744073709551616) (he : b / 4503599627370496 % 2048 = 2047) (hf : b % 4503599627370496 = 0) (w : World) :
    Calls Try.prog 28 #[.int .u64 (b : Int), .int .i64 11, .int .i64 52] w fun e w' => e = .returned (.float .f64 (wd (sgW b) 9218868437227405312)) ∧ Grown w w' := by
  obtain ⟨q, hq⟩ : ∃ q, q = b / 4503599627370496 % 2048 := ⟨_, rfl⟩
  obtain ⟨t, ht⟩ : ∃ t, t = b % 4503599627370496 := ⟨_, rfl⟩
  have ge : (b : Int) / 4503599627370496 % 2048 = (q : Int) := by omega
  have gt : (b : Int) % 4503599627370496 = (t : Int) := by omega
  have gs : ((b : Int) / 9223372036854775808 % 2 == 1) = sgW b := by
    unfold sgW
    rw [Bool.eq_iff_iff]
    simp only [beq_iff_eq, decide_eq_true_eq]
    omega
  have g1 : ((q : Int) == 2047) = true := by simp only [beq_iff_eq]; omega
  have g2 : ((t : Int) != 0) = false := by simp only [bne_eq_false_iff_eq]; omega
  clear he hf hq ht hb
  go_enter Try.func28, Try.ntmps28
  go_wp2_with fail
  go_quiet (fail)
  go_wp2_with fail
  refine (infinite_w _ _).mono ?_
  rintro e w' ⟨rfl, rfl⟩
  go_wp2_with fail
  go_ret
  exact ⟨rfl, grown_drewN nq (Grown.refl w)⟩

set_option maxHeartbeats 400000 in
theorem value64_low (b k : Nat) (hb : b < 18446744073709551616) (he : b / 4503599627370496 % 2048 = 0) (hk : k < 9218868437227405312) (hv : val 52 k = b % 4503599627370496 * 2 ^ (U64)) (w : World) :
    Calls Try.prog 28 #[.int .u64 (b : Int), .int .i64 11, .int .i64 52] w fun e w' => e = .returned (.float .f64 (wd (sgW b) k)) ∧ Grown w w' := by
  obtain ⟨q, hq⟩ : ∃ q, q = b / 4503599627370496 % 2048 := ⟨_, rfl⟩
  obtain ⟨t, ht⟩ : ∃ t, t = b % 4503599627370496 := ⟨_, rfl⟩
  have ge : (b : Int) / 4503599627370496 % 2048 = (q : Int) := by omega
  have gt : (b : Int) % 4503599627370496 = (t : Int) := by omega
  have gs : ((b : Int) / 9223372036854775808 % 2 == 1) = sgW b := by
    unfold sgW
    rw [Bool.eq_iff_iff]
    simp only [beq_iff_eq, decide_eq_true_eq]
    omega
  have g1 : ((q : Int) == 2047) = false := by simp only [beq_eq_false_iff_ne, ne_eq]; omega
  have g3 : ((q : Int) == 0) = true := by simp only [beq_iff_eq]; omega
  have hu : U64 = 0 := rfl
  rw [← ht] at hv
  have hm := fun t w => run_mul_ok (P := Try.prog) (mulpow (u := U64) (by omega) (by omega) hk hv) t w
  have HK := Lib.hid hk
  have HU := Lib.hid hu
  clear he hq ht hb hk hv hu
  go_enter Try.func28, Try.ntmps28
  go_wp2_with fail
  go_quiet (fail)
  go_wp2_with fail
  refine (power_u _ U64 (by rw [HU.out]; decide) (by rw [HU.out]; decide) _).mono ?_
  rintro e w' ⟨rfl, rfl⟩
  go_wp2_with fail
  refine (signed_w _ _ HK.out _).mono ?_
  rintro e w' ⟨rfl, rfl⟩
  go_wp2_with fail
  go_ret
  exact ⟨rfl, grown_drewN nq (Grown.refl w)⟩

set_option maxHeartbeats 800000 in
theorem value64_usual (b k u : Nat) (hb : b < 18446744073709551616) (_he : ¬ b / 4503599627370496 % 2048 = 0) (he2 : ¬ b / 4503599627370496 % 2048 = 2047) (hk : k < 9218868437227405312) (hu : b / 4503599627370496 % 2048 + 0 = u + 1)
    (hv : val 52 k = (b % 4503599627370496 + 4503599627370496) * 2 ^ u) (w : World) :
    Calls Try.prog 28 #[.int .u64 (b : Int), .int .i64 11, .int .i64 52] w fun e w' => e = .returned (.float .f64 (wd (sgW b) k)) ∧ Grown w w' := by
  obtain ⟨q, hq⟩ : ∃ q, q = b / 4503599627370496 % 2048 := ⟨_, rfl⟩
  obtain ⟨t, ht⟩ : ∃ t, t = b % 4503599627370496 := ⟨_, rfl⟩
  have ge : (b : Int) / 4503599627370496 % 2048 = (q : Int) := by omega
  have gt : (b : Int) % 4503599627370496 = (t : Int) := by omega
  have gs : ((b : Int) / 9223372036854775808 % 2 == 1) = sgW b := by
    unfold sgW
    rw [Bool.eq_iff_iff]
    simp only [beq_iff_eq, decide_eq_true_eq]
    omega
  have g1 : ((q : Int) == 2047) = false := by simp only [beq_eq_false_iff_ne, ne_eq]; omega
  have g3 : ((q : Int) == 0) = false := by simp only [beq_eq_false_iff_ne, ne_eq]; omega
  have hq1 : q + 0 = u + 1 := by rw [hq]; exact hu
  have hq2 : q < 2048 := by rw [hq]; exact Nat.mod_lt _ (by decide)
  have ht2 : t < 4503599627370496 := by rw [ht]; exact Nat.mod_lt _ (by decide)
  rw [← ht] at hv
  have hm0 := mulpow (u := u) (by omega) (by omega) hk hv
  rw [show ((t + 4503599627370496 : Nat) : Int) = (t : Int) + 4503599627370496 by omega] at hm0
  have hm := fun t w => run_mul_ok (P := Try.prog) hm0 t w
  have HK := Lib.hid hk
  have HQ := Lib.hid hq1
  have HQ2 := Lib.hid hq2
  have htb : (0 : Int) ≤ (t : Int) ∧ (t : Int) < 4503599627370496 := by omega
  have hqb : (0 : Int) ≤ (q : Int) ∧ (q : Int) < 2048 := by omega
  obtain ⟨tb1, tb2⟩ := htb
  obtain ⟨qb1, qb2⟩ := hqb
  clear _he he2 hq ht hb hk hv hu hm0 hq1 hq2 ht2
  go_enter Try.func28, Try.ntmps28
  go_wp2_with fail
  go_quiet (fail)
  go_wp2_with fail
  have hg : Grown w (w.drewN nq) := grown_drewN nq (Grown.refl w)
  generalize w.drewN nq = w1 at hg ⊢
  have wr1 : IntKind.u64.wrap ((t : Int) + 4503599627370496) = (t : Int) + 4503599627370496 := by rw [IntKind.wrap_u64]; omega
  have wr2 : IntKind.i64.wrap ((q : Int) - 1023) = (q : Int) - 1023 := IntWalk.i64_in _ (by omega)
  have wr3 : IntKind.i64.wrap ((q : Int) - 1023 - 52) = (q : Int) - 1023 - 52 := IntWalk.i64_in _ (by omega)
  go_quiet (first | (go_at_call 34; refine quiet_same (power_u _ u (by have := HQ.out; omega) (by have := HQ.out; have := HQ2.out; omega) _)) | (go_at_call 37; refine quiet_same (signed_w _ _ HK.out _)))
  go_wp2_with fail
  go_ret
  exact ⟨rfl, grown_drewN nq hg⟩

set_option maxHeartbeats 400000 in
theorem value32_nan (b : Nat) (he : b / 8388608 % 256 = 255) (hf : ¬ b % 8388608 = 0) (w : World) :
    Calls Try.prog 28 #[.int .u64 (b : Int), .int .i64 8, .int .i64 23] w (NanPost w) := by
  obtain ⟨q, hq⟩ : ∃ q, q = b / 8388608 % 256 := ⟨_, rfl⟩
  obtain ⟨t, ht⟩ : ∃ t, t = b % 8388608 := ⟨_, rfl⟩
  have ge : (b : Int) / 8388608 % 256 = (q : Int) := by omega
  have gt : (b : Int) % 8388608 = (t : Int) := by omega
  have g1 : ((q : Int) == 255) = true := by simp only [beq_iff_eq]; omega
  have g2 : ((t : Int) != 0) = true := by simp only [bne_iff_ne, ne_eq]; omega
  clear he hf hq ht
  go_enter Try.func28, Try.ntmps28
  go_wp2_with fail
  go_quiet (fail)
  go_wp2_with fail
  refine (number_c _).mono ?_
  rintro e w' ⟨rfl, rfl⟩
  go_wp2_with fail
  go_ret
  exact ⟨_, nanR_isN _ _ _, nanR_lt _ _ _, rfl, grown_drewN nq (Grown.refl w)⟩

set_option maxHeartbeats 400000 in
theorem value32_inf (b : Nat) (hb : b < 4294967296) (he : b / 8388608 % 256 = 255) (hf : b % 8388608 = 0) (w : World) :
    Calls Try.prog 28 #[.int .u64 (b : Int), .int .i64 8, .int .i64 23] w fun e w' => e = .returned (.float .f64 (wd (sgW32 b) 9218868437227405312)) ∧ Grown w w' := by
  obtain ⟨q, hq⟩ : ∃ q, q = b / 8388608 % 256 := ⟨_, rfl⟩
  obtain ⟨t, ht⟩ : ∃ t, t = b % 8388608 := ⟨_, rfl⟩
  have ge : (b : Int) / 8388608 % 256 = (q : Int) := by omega
  have gt : (b : Int) % 8388608 = (t : Int) := by omega
  have gs : ((b : Int) / 2147483648 % 2 == 1) = sgW32 b := by
    unfold sgW32
    rw [Bool.eq_iff_iff]
    simp only [beq_iff_eq, decide_eq_true_eq]
    omega
  have g1 : ((q : Int) == 255) = true := by simp only [beq_iff_eq]; omega
  have g2 : ((t : Int) != 0) = false := by simp only [bne_eq_false_iff_eq]; omega
  clear he hf hq ht hb
  go_enter Try.func28, Try.ntmps28
  go_wp2_with fail
  go_quiet (fail)
  go_wp2_with fail
  refine (infinite_w _ _).mono ?_
  rintro e w' ⟨rfl, rfl⟩
  go_wp2_with fail
  go_ret
  exact ⟨rfl, grown_drewN nq (Grown.refl w)⟩

set_option maxHeartbeats 400000 in
theorem value32_low (b k : Nat) (hb : b < 4294967296) (he : b / 8388608 % 256 = 0) (hk : k < 9218868437227405312) (hv : val 52 k = b % 8388608 * 2 ^ (U32)) (w : World) :
    Calls Try.prog 28 #[.int .u64 (b : Int), .int .i64 8, .int .i64 23] w fun e w' => e = .returned (.float .f64 (wd (sgW32 b) k)) ∧ Grown w w' := by
  obtain ⟨q, hq⟩ : ∃ q, q = b / 8388608 % 256 := ⟨_, rfl⟩
  obtain ⟨t, ht⟩ : ∃ t, t = b % 8388608 := ⟨_, rfl⟩
  have ge : (b : Int) / 8388608 % 256 = (q : Int) := by omega
  have gt : (b : Int) % 8388608 = (t : Int) := by omega
  have gs : ((b : Int) / 2147483648 % 2 == 1) = sgW32 b := by
    unfold sgW32
    rw [Bool.eq_iff_iff]
    simp only [beq_iff_eq, decide_eq_true_eq]
    omega
  have g1 : ((q : Int) == 255) = false := by simp only [beq_eq_false_iff_ne, ne_eq]; omega
  have g3 : ((q : Int) == 0) = true := by simp only [beq_iff_eq]; omega
  have hu : U32 = 925 := rfl
  rw [← ht] at hv
  have hm := fun t w => run_mul_ok (P := Try.prog) (mulpow (u := U32) (by omega) (by omega) hk hv) t w
  have HK := Lib.hid hk
  have HU := Lib.hid hu
  clear he hq ht hb hk hv hu
  go_enter Try.func28, Try.ntmps28
  go_wp2_with fail
  go_quiet (fail)
  go_wp2_with fail
  refine (power_u _ U32 (by rw [HU.out]; decide) (by rw [HU.out]; decide) _).mono ?_
  rintro e w' ⟨rfl, rfl⟩
  go_wp2_with fail
  refine (signed_w _ _ HK.out _).mono ?_
  rintro e w' ⟨rfl, rfl⟩
  go_wp2_with fail
  go_ret
  exact ⟨rfl, grown_drewN nq (Grown.refl w)⟩

set_option maxHeartbeats 800000 in
theorem value32_usual (b k u : Nat) (hb : b < 4294967296) (_he : ¬ b / 8388608 % 256 = 0) (he2 : ¬ b / 8388608 % 256 = 255) (hk : k < 9218868437227405312) (hu : b / 8388608 % 256 + 924 = u + 0)
    (hv : val 52 k = (b % 8388608 + 8388608) * 2 ^ u) (w : World) :
    Calls Try.prog 28 #[.int .u64 (b : Int), .int .i64 8, .int .i64 23] w fun e w' => e = .returned (.float .f64 (wd (sgW32 b) k)) ∧ Grown w w' := by
  obtain ⟨q, hq⟩ : ∃ q, q = b / 8388608 % 256 := ⟨_, rfl⟩
  obtain ⟨t, ht⟩ : ∃ t, t = b % 8388608 := ⟨_, rfl⟩
  have ge : (b : Int) / 8388608 % 256 = (q : Int) := by omega
  have gt : (b : Int) % 8388608 = (t : Int) := by omega
  have gs : ((b : Int) / 2147483648 % 2 == 1) = sgW32 b := by
    unfold sgW32
    rw [Bool.eq_iff_iff]
    simp only [beq_iff_eq, decide_eq_true_eq]
    omega
  have g1 : ((q : Int) == 255) = false := by simp only [beq_eq_false_iff_ne, ne_eq]; omega
  have g3 : ((q : Int) == 0) = false := by simp only [beq_eq_false_iff_ne, ne_eq]; omega
  have hq1 : q + 924 = u + 0 := by rw [hq]; exact hu
  have hq2 : q < 256 := by rw [hq]; exact Nat.mod_lt _ (by decide)
  have ht2 : t < 8388608 := by rw [ht]; exact Nat.mod_lt _ (by decide)
  rw [← ht] at hv
  have hm0 := mulpow (u := u) (by omega) (by omega) hk hv
  rw [show ((t + 8388608 : Nat) : Int) = (t : Int) + 8388608 by omega] at hm0
  have hm := fun t w => run_mul_ok (P := Try.prog) hm0 t w
  have HK := Lib.hid hk
  have HQ := Lib.hid hq1
  have HQ2 := Lib.hid hq2
  have htb : (0 : Int) ≤ (t : Int) ∧ (t : Int) < 8388608 := by omega
  have hqb : (0 : Int) ≤ (q : Int) ∧ (q : Int) < 256 := by omega
  obtain ⟨tb1, tb2⟩ := htb
  obtain ⟨qb1, qb2⟩ := hqb
  clear _he he2 hq ht hb hk hv hu hm0 hq1 hq2 ht2
  go_enter Try.func28, Try.ntmps28
  go_wp2_with fail
  go_quiet (fail)
  go_wp2_with fail
  have hg : Grown w (w.drewN nq) := grown_drewN nq (Grown.refl w)
  generalize w.drewN nq = w1 at hg ⊢
  have wr1 : IntKind.u64.wrap ((t : Int) + 8388608) = (t : Int) + 8388608 := by rw [IntKind.wrap_u64]; omega
  have wr2 : IntKind.i64.wrap ((q : Int) - 127) = (q : Int) - 127 := IntWalk.i64_in _ (by omega)
  have wr3 : IntKind.i64.wrap ((q : Int) - 127 - 23) = (q : Int) - 127 - 23 := IntWalk.i64_in _ (by omega)
  go_quiet (first | (go_at_call 34; refine quiet_same (power_u _ u (by have := HQ.out; omega) (by have := HQ.out; have := HQ2.out; omega) _)) | (go_at_call 37; refine quiet_same (signed_w _ _ HK.out _)))
  go_wp2_with fail
  go_ret
  exact ⟨rfl, grown_drewN nq hg⟩
theorem finite_yes (x : Nat) (h : absW x < 9218868437227405312) (w : World) :
    Calls Try.prog 31 #[.float .f64 x] w fun e w' => e = .returned (.bool true) ∧ w = w' := by
  have h1 := fun t w => run_sub_ok (P := Try.prog) (sub_self_fin (x := x) h) t w
  have h2 := ord0_pz
  clear h
  go_enter Try.func31, Try.ntmps31
  go_wp2
  go_ret
  exact ⟨rfl, rfl⟩
theorem finite_no (x : Nat) (h : 9218868437227405312 ≤ absW x) (w : World) :
    Calls Try.prog 31 #[.float .f64 x] w fun e w' => e = .returned (.bool false) ∧ w.drew = w' := by
  have h1 := fun t w => run_sub_nan (P := Try.prog) (sub_self_not (x := x) h) t w
  have h2 : ∀ w, FloatKind.f64.format.order (nanR x x w) 0 = none := fun w => ord_nl 0 (nanR_isN x x w)
  clear h
  go_enter Try.func31, Try.ntmps31
  go_wp2
  go_ret
  exact ⟨rfl, rfl⟩
theorem ret_int {k : IntKind} {a b : Int} (h : a = b) : Ending.returned (.int k a) = .returned (.int k b) := by rw [h]
theorem ne_zero {x : Nat} (hx : x < 18446744073709551616) (hn : isN x = false) (h : 0 < absW x) : (FloatKind.f64.format.order x 0 == some .eq) = false := by
  unfold absW at h
  by_cases hs : 9223372036854775808 ≤ x
  · rw [ord0_lt hx hn (by omega)]; rfl
  · rw [ord0_gt hn (by omega) (by omega)]; rfl

set_option maxHeartbeats 400000 in
theorem bits64_inf (x r : Nat) (s : Bool) (hx : x = wd s r) (hr : r = 9218868437227405312) (w : World) :
    Calls Try.prog 25 #[.float .f64 x, .int .i64 11, .int .i64 52] w fun e w' => e = .returned (.int .u64 ((if s then 9223372036854775808 else 0) + 9218868437227405312)) ∧ Grown w w' := by
  have hx64 : x < 18446744073709551616 := by rw [hx]; exact wd_lt (by omega)
  have hxn : isN x = false := by rw [hx]; exact wd_nan (by omega)
  have hxs : ngW x = s := by unfold ngW; rw [hxn, hx, wd_sg (by omega)]; simp
  have hxa : absW x = r := by rw [hx]; exact wd_abs (by omega)
  have hsz : szW x = r := by unfold szW; rw [hxn]; exact hxa
  have H := Lib.hid hx64
  have HA := Lib.hid hxa
  have hfin : 9218868437227405312 ≤ absW x := by rw [hxa]; omega
  have HF := Lib.hid hfin
  clear hx64 hxn hxa hsz hx hr hfin
  cases s
  all_goals
    go_enter Try.func25, Try.ntmps25
    go_wp2_with fail
    refine (negative_c _ H.out _).mono ?_
    rintro e w' ⟨rfl, rfl⟩
    go_wp2_with fail
    refine (finite_no _ HF.out _).mono ?_
    rintro e w' ⟨rfl, rfl⟩
    go_wp2_with fail
    go_ret
    exact ⟨rfl, (Grown.refl _).drew⟩

set_option maxHeartbeats 400000 in
theorem bits64_zero (x r : Nat) (s : Bool) (hx : x = wd s r) (hr : r = 0) (w : World) :
    Calls Try.prog 25 #[.float .f64 x, .int .i64 11, .int .i64 52] w fun e w' => e = .returned (.int .u64 (if s then 9223372036854775808 else 0)) ∧ Grown w w' := by
  have hx64 : x < 18446744073709551616 := by rw [hx]; exact wd_lt (by omega)
  have hxn : isN x = false := by rw [hx]; exact wd_nan (by omega)
  have hxs : ngW x = s := by unfold ngW; rw [hxn, hx, wd_sg (by omega)]; simp
  have hxa : absW x = r := by rw [hx]; exact wd_abs (by omega)
  have hsz : szW x = r := by unfold szW; rw [hxn]; exact hxa
  have H := Lib.hid hx64
  have HA := Lib.hid hxa
  have hfin : absW x < 9218868437227405312 := by rw [hxa]; omega
  have HF := Lib.hid hfin
  have ho : FloatKind.f64.format.order x 0 = some .eq := by
    rw [hx, hr, wd_eq]
    cases s
    · exact ord0_pz
    · exact ord0_nz
  clear hx64 hxn hxa hsz hx hr hfin
  cases s
  all_goals
    go_enter Try.func25, Try.ntmps25
    go_wp2_with fail
    refine (negative_c _ H.out _).mono ?_
    rintro e w' ⟨rfl, rfl⟩
    go_wp2_with fail
    refine (finite_yes _ HF.out _).mono ?_
    rintro e w' ⟨rfl, rfl⟩
    go_wp2_with fail
    go_ret
    exact ⟨rfl, Grown.refl _⟩

set_option maxHeartbeats 800000 in
theorem bits64_low (x r m : Nat) (s : Bool) (hx : x = wd s r) (hr : r < 9218868437227405312) (hr0 : 0 < r) (hm : m < 4503599627370496) (hv : val 52 r = m * 2 ^ U64) (w : World) :
    Calls Try.prog 25 #[.float .f64 x, .int .i64 11, .int .i64 52] w fun e w' => e = .returned (.int .u64 ((if s then 9223372036854775808 else 0) + (m : Int))) ∧ Grown w w' := by
  have hx64 : x < 18446744073709551616 := by rw [hx]; exact wd_lt (by omega)
  have hxn : isN x = false := by rw [hx]; exact wd_nan (by omega)
  have hxs : ngW x = s := by unfold ngW; rw [hxn, hx, wd_sg (by omega)]; simp
  have hxa : absW x = r := by rw [hx]; exact wd_abs (by omega)
  have hsz : szW x = r := by unfold szW; rw [hxn]; exact hxa
  have H := Lib.hid hx64
  have HA := Lib.hid hxa
  have hfin : absW x < 9218868437227405312 := by rw [hxa]; exact hr
  have hpos : 0 < absW x := by rw [hxa]; exact hr0
  have hu : U64 = 0 := rfl
  have hne : (FloatKind.f64.format.order x 0 == some .eq) = false := ne_zero hx64 hxn hpos
  have hxp : ((xp r : Int) - 1074 < -1022) := by
    have h1 : val 52 r < 2 ^ (52 + U64) := by
      rw [hv, Nat.pow_add]
      exact (Nat.mul_lt_mul_right (Nat.two_pow_pos _)).2 hm
    have h0 : val 52 r ≠ 0 := by have := val_pos (fb := 52) hr0; omega
    have := (Nat.log2_lt h0).2 h1
    unfold xp
    omega
  obtain ⟨hdiv, hcv⟩ := divpow hr (by omega) (by omega) hv
  have r1 := fun t w => run_div_ok (P := Try.prog) hdiv t w
  have r2 := fun w => run_convert_float_int (P := Try.prog) w 27 30 .f64 .u64 _ _ (by rw [Try.underlying27]; rfl) Try.underlying30 hcv
  have HF := Lib.hid hfin
  have HP := Lib.hid hpos
  have HM := Lib.hid hm
  have HU := Lib.hid hu
  clear hx64 hxn hx hr hr0 hv hfin hpos hu hdiv hcv hm
  cases s
  all_goals
    go_enter Try.func25, Try.ntmps25
    go_wp2_with fail
    refine (negative_c _ H.out _).mono ?_
    rintro e w' ⟨rfl, rfl⟩
    go_wp2_with fail
    refine (finite_yes _ HF.out _).mono ?_
    rintro e w' ⟨rfl, rfl⟩
    go_wp2_with fail
    refine (exponent_c _ H.out HP.out HF.out _).mono ?_
    rintro e w' ⟨rfl, rfl⟩
    go_wp2_with fail
    refine (size_c _ H.out _).mono ?_
    rintro e w' ⟨rfl, rfl⟩
    go_wp2_with fail
    refine (power_u _ U64 (by rw [HU.out]; decide) (by rw [HU.out]; decide) _).mono ?_
    rintro e w' ⟨rfl, rfl⟩
    go_wp2_with fail
    go_ret
    refine ⟨ret_int ?_, Grown.refl _⟩
    have := HM.out
    simp only [IntKind.wrap_u64]
    omega

theorem sumF64 {q m : Nat} (h : 4503599627370496 ≤ m ∧ m < 9007199254740992) (hq : q < 2048) : IntKind.u64.wrap (IntKind.u64.wrap ((q : Int) * 4503599627370496 + (m : Int)) - 4503599627370496) = (q : Int) * 4503599627370496 + (m : Int) - 4503599627370496 := by
  rw [IntKind.wrap_u64, IntKind.wrap_u64]
  omega
theorem sumT64 {q m : Nat} (h : 4503599627370496 ≤ m ∧ m < 9007199254740992) (hq : q < 2048) : IntKind.u64.wrap (IntKind.u64.wrap (9223372036854775808 + (q : Int) * 4503599627370496 + (m : Int)) - 4503599627370496) = 9223372036854775808 + (q : Int) * 4503599627370496 + (m : Int) - 4503599627370496 := by
  rw [IntKind.wrap_u64, IntKind.wrap_u64]
  omega

set_option maxRecDepth 100000 in
set_option maxHeartbeats 1600000 in
theorem bits64_usual (x r m u q : Nat) (s : Bool) (hx : x = wd s r) (hr : r < 9218868437227405312) (hm1 : 4503599627370496 ≤ m) (hm2 : m < 9007199254740992) (hv : val 52 r = m * 2 ^ u) (hq : q + 1074 = u + 52 + 1023)
    (_hq1 : 1 ≤ q) (hq2 : q < 2048) (w : World) :
    Calls Try.prog 25 #[.float .f64 x, .int .i64 11, .int .i64 52] w fun e w' => e = .returned (.int .u64 ((if s then 9223372036854775808 else 0) + (q : Int) * 4503599627370496 + (m : Int) - 4503599627370496)) ∧ Grown w w' := by
  have hx64 : x < 18446744073709551616 := by rw [hx]; exact wd_lt (by omega)
  have hxn : isN x = false := by rw [hx]; exact wd_nan (by omega)
  have hxs : ngW x = s := by unfold ngW; rw [hxn, hx, wd_sg (by omega)]; simp
  have hxa : absW x = r := by rw [hx]; exact wd_abs (by omega)
  have hsz : szW x = r := by unfold szW; rw [hxn]; exact hxa
  have H := Lib.hid hx64
  have HA := Lib.hid hxa
  have hr0 : 0 < r := by
    apply Nat.pos_of_ne_zero
    intro h
    rw [h, val_zero] at hv
    have := Nat.mul_pos (show 0 < m by omega) (Nat.two_pow_pos u)
    omega
  have hfin : absW x < 9218868437227405312 := by rw [hxa]; exact hr
  have hpos : 0 < absW x := by rw [hxa]; exact hr0
  have hne : (FloatKind.f64.format.order x 0 == some .eq) = false := ne_zero hx64 hxn hpos
  have hxp : xp r = u + 52 := by
    unfold xp
    have h0 : m ≠ 0 := by omega
    have a := (Nat.le_log2 h0 (k := 52)).2 hm1
    have b := (Nat.log2_lt h0 (k := 52 + 1)).2 hm2
    rw [hv, log2_shift h0]
    omega
  have hxe : (xp r : Int) - 1074 = (q : Int) - 1023 := by omega
  obtain ⟨hdiv, hcv⟩ := divpow hr (u := u) (by omega) (by omega) hv
  have r1 := fun t w => run_div_ok (P := Try.prog) hdiv t w
  have r2 := fun w => run_convert_float_int (P := Try.prog) w 27 30 .f64 .u64 _ _ (by rw [Try.underlying27]; rfl) Try.underlying30 hcv
  have HF := Lib.hid hfin
  have HP := Lib.hid hpos
  have HQ := Lib.hid hq
  have HQ2 := Lib.hid hq2
  have HE := Lib.hid hxe
  have HS := Lib.hid hsz
  have HM : Hid (4503599627370496 ≤ m ∧ m < 9007199254740992) := Lib.hid ⟨hm1, hm2⟩
  have hqb : (0 : Int) ≤ (q : Int) ∧ 1 ≤ (q : Int) ∧ (q : Int) < 2048 := by omega
  obtain ⟨qb1, qb2, qb3⟩ := hqb
  clear hx64 hxn hx hr hr0 hv hfin hpos hdiv hcv hm1 hm2 hq _hq1 hq2 hxp hxa hsz hxe
  cases s
  · go_enter Try.func25, Try.ntmps25
    go_wp2_with fail
    refine (negative_c _ H.out _).mono ?_
    rintro e w' ⟨rfl, rfl⟩
    go_wp2_with fail
    refine (finite_yes _ HF.out _).mono ?_
    rintro e w' ⟨rfl, rfl⟩
    go_wp2_with fail
    refine (exponent_c _ H.out HP.out HF.out _).mono ?_
    rintro e w' ⟨rfl, rfl⟩
    rw [HA.out, HE.out]
    have wr0 : IntKind.i64.wrap ((q : Int) - 1023) = (q : Int) - 1023 := IntWalk.i64_in _ (by omega)
    go_wp2_with fail
    have hsz := HS.out
    have wr1 : IntKind.i64.wrap ((q : Int) - 1023 + 1023) = (q : Int) := by rw [show (q : Int) - 1023 + 1023 = q by omega]; exact IntWalk.i64_in _ (by omega)
    have wr3 : IntKind.i64.wrap ((q : Int) - 1023 - 52) = (q : Int) - 1023 - 52 := IntWalk.i64_in _ (by omega)
    have wr4 : IntKind.u64.wrap (q : Int) = (q : Int) := by rw [IntKind.wrap_u64]; omega
    have wr5 : IntKind.u64.wrap ((q : Int) * 4503599627370496) = (q : Int) * 4503599627370496 := by rw [IntKind.wrap_u64]; omega
    go_quiet (first | (go_at_call 33; refine quiet_same (size_c _ H.out _)) | (go_at_call 34; refine quiet_same (power_u _ u (by have := HQ.out; omega) (by have := HQ.out; omega) _)))
    go_wp2_with fail
    go_ret
    refine ⟨ret_int ?_, grown_drewN nq (Grown.refl w)⟩
    exact sumF64 HM.out HQ2.out
  · go_enter Try.func25, Try.ntmps25
    go_wp2_with fail
    refine (negative_c _ H.out _).mono ?_
    rintro e w' ⟨rfl, rfl⟩
    go_wp2_with fail
    refine (finite_yes _ HF.out _).mono ?_
    rintro e w' ⟨rfl, rfl⟩
    go_wp2_with fail
    refine (exponent_c _ H.out HP.out HF.out _).mono ?_
    rintro e w' ⟨rfl, rfl⟩
    rw [HA.out, HE.out]
    have wr0 : IntKind.i64.wrap ((q : Int) - 1023) = (q : Int) - 1023 := IntWalk.i64_in _ (by omega)
    go_wp2_with fail
    have hsz := HS.out
    have wr1 : IntKind.i64.wrap ((q : Int) - 1023 + 1023) = (q : Int) := by rw [show (q : Int) - 1023 + 1023 = q by omega]; exact IntWalk.i64_in _ (by omega)
    have wr3 : IntKind.i64.wrap ((q : Int) - 1023 - 52) = (q : Int) - 1023 - 52 := IntWalk.i64_in _ (by omega)
    have wr4 : IntKind.u64.wrap (q : Int) = (q : Int) := by rw [IntKind.wrap_u64]; omega
    have wr5 : IntKind.u64.wrap ((q : Int) * 4503599627370496) = (q : Int) * 4503599627370496 := by rw [IntKind.wrap_u64]; omega
    go_quiet (first | (go_at_call 33; refine quiet_same (size_c _ H.out _)) | (go_at_call 34; refine quiet_same (power_u _ u (by have := HQ.out; omega) (by have := HQ.out; omega) _)))
    go_wp2_with fail
    go_ret
    refine ⟨ret_int ?_, grown_drewN nq (Grown.refl w)⟩
    exact sumT64 HM.out HQ2.out

set_option maxHeartbeats 400000 in
theorem bits32_inf (x r : Nat) (s : Bool) (hx : x = wd s r) (hr : r = 9218868437227405312) (w : World) :
    Calls Try.prog 25 #[.float .f64 x, .int .i64 8, .int .i64 23] w fun e w' => e = .returned (.int .u64 ((if s then 2147483648 else 0) + 2139095040)) ∧ Grown w w' := by
  have hx64 : x < 18446744073709551616 := by rw [hx]; exact wd_lt (by omega)
  have hxn : isN x = false := by rw [hx]; exact wd_nan (by omega)
  have hxs : ngW x = s := by unfold ngW; rw [hxn, hx, wd_sg (by omega)]; simp
  have hxa : absW x = r := by rw [hx]; exact wd_abs (by omega)
  have hsz : szW x = r := by unfold szW; rw [hxn]; exact hxa
  have H := Lib.hid hx64
  have HA := Lib.hid hxa
  have hfin : 9218868437227405312 ≤ absW x := by rw [hxa]; omega
  have HF := Lib.hid hfin
  clear hx64 hxn hxa hsz hx hr hfin
  cases s
  all_goals
    go_enter Try.func25, Try.ntmps25
    go_wp2_with fail
    refine (negative_c _ H.out _).mono ?_
    rintro e w' ⟨rfl, rfl⟩
    go_wp2_with fail
    refine (finite_no _ HF.out _).mono ?_
    rintro e w' ⟨rfl, rfl⟩
    go_wp2_with fail
    go_ret
    exact ⟨rfl, (Grown.refl _).drew⟩

set_option maxHeartbeats 400000 in
theorem bits32_zero (x r : Nat) (s : Bool) (hx : x = wd s r) (hr : r = 0) (w : World) :
    Calls Try.prog 25 #[.float .f64 x, .int .i64 8, .int .i64 23] w fun e w' => e = .returned (.int .u64 (if s then 2147483648 else 0)) ∧ Grown w w' := by
  have hx64 : x < 18446744073709551616 := by rw [hx]; exact wd_lt (by omega)
  have hxn : isN x = false := by rw [hx]; exact wd_nan (by omega)
  have hxs : ngW x = s := by unfold ngW; rw [hxn, hx, wd_sg (by omega)]; simp
  have hxa : absW x = r := by rw [hx]; exact wd_abs (by omega)
  have hsz : szW x = r := by unfold szW; rw [hxn]; exact hxa
  have H := Lib.hid hx64
  have HA := Lib.hid hxa
  have hfin : absW x < 9218868437227405312 := by rw [hxa]; omega
  have HF := Lib.hid hfin
  have ho : FloatKind.f64.format.order x 0 = some .eq := by
    rw [hx, hr, wd_eq]
    cases s
    · exact ord0_pz
    · exact ord0_nz
  clear hx64 hxn hxa hsz hx hr hfin
  cases s
  all_goals
    go_enter Try.func25, Try.ntmps25
    go_wp2_with fail
    refine (negative_c _ H.out _).mono ?_
    rintro e w' ⟨rfl, rfl⟩
    go_wp2_with fail
    refine (finite_yes _ HF.out _).mono ?_
    rintro e w' ⟨rfl, rfl⟩
    go_wp2_with fail
    go_ret
    exact ⟨rfl, Grown.refl _⟩

set_option maxHeartbeats 800000 in
theorem bits32_low (x r m : Nat) (s : Bool) (hx : x = wd s r) (hr : r < 9218868437227405312) (hr0 : 0 < r) (hm : m < 8388608) (hv : val 52 r = m * 2 ^ U32) (w : World) :
    Calls Try.prog 25 #[.float .f64 x, .int .i64 8, .int .i64 23] w fun e w' => e = .returned (.int .u64 ((if s then 2147483648 else 0) + (m : Int))) ∧ Grown w w' := by
  have hx64 : x < 18446744073709551616 := by rw [hx]; exact wd_lt (by omega)
  have hxn : isN x = false := by rw [hx]; exact wd_nan (by omega)
  have hxs : ngW x = s := by unfold ngW; rw [hxn, hx, wd_sg (by omega)]; simp
  have hxa : absW x = r := by rw [hx]; exact wd_abs (by omega)
  have hsz : szW x = r := by unfold szW; rw [hxn]; exact hxa
  have H := Lib.hid hx64
  have HA := Lib.hid hxa
  have hfin : absW x < 9218868437227405312 := by rw [hxa]; exact hr
  have hpos : 0 < absW x := by rw [hxa]; exact hr0
  have hu : U32 = 925 := rfl
  have hne : (FloatKind.f64.format.order x 0 == some .eq) = false := ne_zero hx64 hxn hpos
  have hxp : ((xp r : Int) - 1074 < -126) := by
    have h1 : val 52 r < 2 ^ (23 + U32) := by
      rw [hv, Nat.pow_add]
      exact (Nat.mul_lt_mul_right (Nat.two_pow_pos _)).2 hm
    have h0 : val 52 r ≠ 0 := by have := val_pos (fb := 52) hr0; omega
    have := (Nat.log2_lt h0).2 h1
    unfold xp
    omega
  obtain ⟨hdiv, hcv⟩ := divpow hr (by omega) (by omega) hv
  have r1 := fun t w => run_div_ok (P := Try.prog) hdiv t w
  have r2 := fun w => run_convert_float_int (P := Try.prog) w 27 30 .f64 .u64 _ _ (by rw [Try.underlying27]; rfl) Try.underlying30 hcv
  have HF := Lib.hid hfin
  have HP := Lib.hid hpos
  have HM := Lib.hid hm
  have HU := Lib.hid hu
  clear hx64 hxn hx hr hr0 hv hfin hpos hu hdiv hcv hm
  cases s
  all_goals
    go_enter Try.func25, Try.ntmps25
    go_wp2_with fail
    refine (negative_c _ H.out _).mono ?_
    rintro e w' ⟨rfl, rfl⟩
    go_wp2_with fail
    refine (finite_yes _ HF.out _).mono ?_
    rintro e w' ⟨rfl, rfl⟩
    go_wp2_with fail
    refine (exponent_c _ H.out HP.out HF.out _).mono ?_
    rintro e w' ⟨rfl, rfl⟩
    go_wp2_with fail
    refine (size_c _ H.out _).mono ?_
    rintro e w' ⟨rfl, rfl⟩
    go_wp2_with fail
    refine (power_u _ U32 (by rw [HU.out]; decide) (by rw [HU.out]; decide) _).mono ?_
    rintro e w' ⟨rfl, rfl⟩
    go_wp2_with fail
    go_ret
    refine ⟨ret_int ?_, Grown.refl _⟩
    have := HM.out
    simp only [IntKind.wrap_u64]
    omega

theorem sumF32 {q m : Nat} (h : 8388608 ≤ m ∧ m < 16777216) (hq : q < 256) : IntKind.u64.wrap (IntKind.u64.wrap ((q : Int) * 8388608 + (m : Int)) - 8388608) = (q : Int) * 8388608 + (m : Int) - 8388608 := by
  rw [IntKind.wrap_u64, IntKind.wrap_u64]
  omega
theorem sumT32 {q m : Nat} (h : 8388608 ≤ m ∧ m < 16777216) (hq : q < 256) : IntKind.u64.wrap (IntKind.u64.wrap (2147483648 + (q : Int) * 8388608 + (m : Int)) - 8388608) = 2147483648 + (q : Int) * 8388608 + (m : Int) - 8388608 := by
  rw [IntKind.wrap_u64, IntKind.wrap_u64]
  omega

set_option maxRecDepth 100000 in
set_option maxHeartbeats 1600000 in
theorem bits32_usual (x r m u q : Nat) (s : Bool) (hx : x = wd s r) (hr : r < 9218868437227405312) (hm1 : 8388608 ≤ m) (hm2 : m < 16777216) (hv : val 52 r = m * 2 ^ u) (hq : q + 1074 = u + 23 + 127)
    (_hq1 : 1 ≤ q) (hq2 : q < 256) (w : World) :
    Calls Try.prog 25 #[.float .f64 x, .int .i64 8, .int .i64 23] w fun e w' => e = .returned (.int .u64 ((if s then 2147483648 else 0) + (q : Int) * 8388608 + (m : Int) - 8388608)) ∧ Grown w w' := by
  have hx64 : x < 18446744073709551616 := by rw [hx]; exact wd_lt (by omega)
  have hxn : isN x = false := by rw [hx]; exact wd_nan (by omega)
  have hxs : ngW x = s := by unfold ngW; rw [hxn, hx, wd_sg (by omega)]; simp
  have hxa : absW x = r := by rw [hx]; exact wd_abs (by omega)
  have hsz : szW x = r := by unfold szW; rw [hxn]; exact hxa
  have H := Lib.hid hx64
  have HA := Lib.hid hxa
  have hr0 : 0 < r := by
    apply Nat.pos_of_ne_zero
    intro h
    rw [h, val_zero] at hv
    have := Nat.mul_pos (show 0 < m by omega) (Nat.two_pow_pos u)
    omega
  have hfin : absW x < 9218868437227405312 := by rw [hxa]; exact hr
  have hpos : 0 < absW x := by rw [hxa]; exact hr0
  have hne : (FloatKind.f64.format.order x 0 == some .eq) = false := ne_zero hx64 hxn hpos
  have hxp : xp r = u + 23 := by
    unfold xp
    have h0 : m ≠ 0 := by omega
    have a := (Nat.le_log2 h0 (k := 23)).2 hm1
    have b := (Nat.log2_lt h0 (k := 23 + 1)).2 hm2
    rw [hv, log2_shift h0]
    omega
  have hxe : (xp r : Int) - 1074 = (q : Int) - 127 := by omega
  obtain ⟨hdiv, hcv⟩ := divpow hr (u := u) (by omega) (by omega) hv
  have r1 := fun t w => run_div_ok (P := Try.prog) hdiv t w
  have r2 := fun w => run_convert_float_int (P := Try.prog) w 27 30 .f64 .u64 _ _ (by rw [Try.underlying27]; rfl) Try.underlying30 hcv
  have HF := Lib.hid hfin
  have HP := Lib.hid hpos
  have HQ := Lib.hid hq
  have HQ2 := Lib.hid hq2
  have HE := Lib.hid hxe
  have HS := Lib.hid hsz
  have HM : Hid (8388608 ≤ m ∧ m < 16777216) := Lib.hid ⟨hm1, hm2⟩
  have hqb : (0 : Int) ≤ (q : Int) ∧ 1 ≤ (q : Int) ∧ (q : Int) < 256 := by omega
  obtain ⟨qb1, qb2, qb3⟩ := hqb
  clear hx64 hxn hx hr hr0 hv hfin hpos hdiv hcv hm1 hm2 hq _hq1 hq2 hxp hxa hsz hxe
  cases s
  · go_enter Try.func25, Try.ntmps25
    go_wp2_with fail
    refine (negative_c _ H.out _).mono ?_
    rintro e w' ⟨rfl, rfl⟩
    go_wp2_with fail
    refine (finite_yes _ HF.out _).mono ?_
    rintro e w' ⟨rfl, rfl⟩
    go_wp2_with fail
    refine (exponent_c _ H.out HP.out HF.out _).mono ?_
    rintro e w' ⟨rfl, rfl⟩
    rw [HA.out, HE.out]
    have wr0 : IntKind.i64.wrap ((q : Int) - 127) = (q : Int) - 127 := IntWalk.i64_in _ (by omega)
    go_wp2_with fail
    have hsz := HS.out
    have wr1 : IntKind.i64.wrap ((q : Int) - 127 + 127) = (q : Int) := by rw [show (q : Int) - 127 + 127 = q by omega]; exact IntWalk.i64_in _ (by omega)
    have wr3 : IntKind.i64.wrap ((q : Int) - 127 - 23) = (q : Int) - 127 - 23 := IntWalk.i64_in _ (by omega)
    have wr4 : IntKind.u64.wrap (q : Int) = (q : Int) := by rw [IntKind.wrap_u64]; omega
    have wr5 : IntKind.u64.wrap ((q : Int) * 8388608) = (q : Int) * 8388608 := by rw [IntKind.wrap_u64]; omega
    go_quiet (first | (go_at_call 33; refine quiet_same (size_c _ H.out _)) | (go_at_call 34; refine quiet_same (power_u _ u (by have := HQ.out; omega) (by have := HQ.out; omega) _)))
    go_wp2_with fail
    go_ret
    refine ⟨ret_int ?_, grown_drewN nq (Grown.refl w)⟩
    exact sumF32 HM.out HQ2.out
  · go_enter Try.func25, Try.ntmps25
    go_wp2_with fail
    refine (negative_c _ H.out _).mono ?_
    rintro e w' ⟨rfl, rfl⟩
    go_wp2_with fail
    refine (finite_yes _ HF.out _).mono ?_
    rintro e w' ⟨rfl, rfl⟩
    go_wp2_with fail
    refine (exponent_c _ H.out HP.out HF.out _).mono ?_
    rintro e w' ⟨rfl, rfl⟩
    rw [HA.out, HE.out]
    have wr0 : IntKind.i64.wrap ((q : Int) - 127) = (q : Int) - 127 := IntWalk.i64_in _ (by omega)
    go_wp2_with fail
    have hsz := HS.out
    have wr1 : IntKind.i64.wrap ((q : Int) - 127 + 127) = (q : Int) := by rw [show (q : Int) - 127 + 127 = q by omega]; exact IntWalk.i64_in _ (by omega)
    have wr3 : IntKind.i64.wrap ((q : Int) - 127 - 23) = (q : Int) - 127 - 23 := IntWalk.i64_in _ (by omega)
    have wr4 : IntKind.u64.wrap (q : Int) = (q : Int) := by rw [IntKind.wrap_u64]; omega
    have wr5 : IntKind.u64.wrap ((q : Int) * 8388608) = (q : Int) * 8388608 := by rw [IntKind.wrap_u64]; omega
    go_quiet (first | (go_at_call 33; refine quiet_same (size_c _ H.out _)) | (go_at_call 34; refine quiet_same (power_u _ u (by have := HQ.out; omega) (by have := HQ.out; omega) _)))
    go_wp2_with fail
    go_ret
    refine ⟨ret_int ?_, grown_drewN nq (Grown.refl w)⟩
    exact sumT32 HM.out HQ2.out
end Go.Proofs.Ytfjophnfjfphgaa
