/-
  Words of 64 bits: what is no number, signs, sizes; the order of two words as the walks meet it; operations that have no answer draw some NaN.
-/
import Derived.Test.YtginlhkoeabjgaaNum
import Derived.WalkKit
import Derived.WalkLawsBesides
import Derived.ProofKit
import Derived.Laws.BitsAllLaws
namespace Go.Proofs.Ytginlhkoeabjgaa
open Ieee Num Go.RowKit

def isN (x : Nat) : Bool := decide (9218868437227405312 < x % 9223372036854775808)
def sgW (x : Nat) : Bool := decide (9223372036854775808 ≤ x)
def finW (x : Nat) : Bool := decide (x % 9223372036854775808 < 9218868437227405312)
def ngW (x : Nat) : Bool := sgW x && !isN x
def absW (x : Nat) : Nat := x % 9223372036854775808
def negW (x : Nat) : Nat := if 9223372036854775808 ≤ x then x - 9223372036854775808 else x + 9223372036854775808
def szW (x : Nat) : Nat := if isN x then x else absW x
/-- the place on the line -/
def sr64 (x : Nat) : Int := if 9223372036854775808 ≤ x then -((x % 9223372036854775808 : Nat) : Int) else ((x % 9223372036854775808 : Nat) : Int)

theorem dbl_inf : Ieee.double.infRung = 9218868437227405312 := by decide +kernel
theorem dbl_sw : Ieee.double.signWeight = 9223372036854775808 := by decide +kernel
theorem dbl_e : 0 < Ieee.double.exponentBits := by decide
theorem dbl_lp : Ieee.double.leastPlace = -1074 := by decide +kernel
theorem dbl_lp0 : Ieee.double.leastPlace ≤ 0 := by decide +kernel
theorem dbl_fb : Ieee.double.fractionBits = 52 := rfl

theorem rg64 (x : Nat) : rg Ieee.double x = x % 9223372036854775808 := by unfold rg; rw [dbl_sw]
theorem sg64 {x : Nat} (h : x < 18446744073709551616) : sg Ieee.double x = sgW x := by
  unfold sg sgW
  rw [dbl_sw, Bool.eq_iff_iff]
  simp only [beq_iff_eq, decide_eq_true_eq]
  omega
theorem sr64_eq {x : Nat} (h : x < 18446744073709551616) : sr Ieee.double x = sr64 x := by
  unfold sr sr64
  rw [sg64 h, rg64]
  unfold sgW
  simp only [decide_eq_true_eq]

theorem isN_lt {x : Nat} (h : isN x = false) : rg Ieee.double x ≤ Ieee.double.infRung := by
  rw [rg64, dbl_inf]
  unfold isN at h
  simp only [decide_eq_false_iff_not] at h
  omega
theorem isN_gt {x : Nat} (h : isN x = true) : Ieee.double.infRung < rg Ieee.double x := by
  rw [rg64, dbl_inf]
  unfold isN at h
  simpa using h

theorem ord_nl {x : Nat} (y : Nat) (h : isN x = true) : FloatKind.f64.format.order x y = none := order_nan_left dbl_e y (isN_gt h)
theorem ord_nr (x : Nat) {y : Nat} (h : isN y = true) : FloatKind.f64.format.order x y = none := order_nan_right dbl_e x (isN_gt h)
theorem ord {x y : Nat} (lx : x < 18446744073709551616) (ly : y < 18446744073709551616) (hx : isN x = false) (hy : isN y = false) :
    FloatKind.f64.format.order x y = some (compare (sr64 x) (sr64 y)) := by
  have := order_eq dbl_e (isN_lt hx) (isN_lt hy)
  rw [sr64_eq lx, sr64_eq ly] at this
  exact this
theorem ord_lt {x y : Nat} (lx : x < 18446744073709551616) (ly : y < 18446744073709551616) (hx : isN x = false) (hy : isN y = false) (h : sr64 x < sr64 y) :
    FloatKind.f64.format.order x y = some .lt := by rw [ord lx ly hx hy, cmp_lt h]
theorem ord_gt {x y : Nat} (lx : x < 18446744073709551616) (ly : y < 18446744073709551616) (hx : isN x = false) (hy : isN y = false) (h : sr64 y < sr64 x) :
    FloatKind.f64.format.order x y = some .gt := by rw [ord lx ly hx hy, cmp_gt h]
theorem ord_eq {x y : Nat} (lx : x < 18446744073709551616) (ly : y < 18446744073709551616) (hx : isN x = false) (hy : isN y = false) (h : sr64 x = sr64 y) :
    FloatKind.f64.format.order x y = some .eq := by rw [ord lx ly hx hy, cmp_eq h]
theorem ord_self {x : Nat} (lx : x < 18446744073709551616) (hx : isN x = false) : FloatKind.f64.format.order x x = some .eq := ord_eq lx lx hx hx rfl
theorem isN_zero : isN 0 = false := by decide
/-- against zero -/
theorem ord0_lt {x : Nat} (lx : x < 18446744073709551616) (hx : isN x = false) (h : 9223372036854775808 < x) : FloatKind.f64.format.order x 0 = some .lt :=
  ord_lt lx (by omega) hx isN_zero (by unfold sr64; rw [if_pos (by omega), if_neg (by omega)]; omega)
theorem ord0_gt {x : Nat} (hx : isN x = false) (h0 : 0 < x) (h : x < 9223372036854775808) : FloatKind.f64.format.order x 0 = some .gt :=
  ord_gt (by omega) (by omega) hx isN_zero (by unfold sr64; rw [if_neg (by omega), if_neg (by omega)]; omega)
theorem ord0_pz : FloatKind.f64.format.order 0 0 = some .eq := by decide +kernel
theorem ord0_nz : FloatKind.f64.format.order 9223372036854775808 0 = some .eq := by decide +kernel

/-- the NaN that an operation without an answer draws -/
def nanR (x y : Nat) (w : World) : Nat := (Question.nanBits .f64 x y).cut (w.tape w.drawn (.nanBits .f64 x y))

theorem nanR_isN (x y : Nat) (w : World) : isN (nanR x y w) = true := by
  unfold nanR isN
  rw [decide_eq_true_eq]
  simp only [Question.cut]
  obtain ⟨t, ht⟩ : ∃ t, t = w.tape w.drawn (Question.nanBits FloatKind.f64 x y) := ⟨_, rfl⟩
  rw [← ht]
  have h1 : t / 2 % (2 ^ 52 - 1) < 2 ^ 52 - 1 := Nat.mod_lt _ (by decide)
  obtain ⟨u, hu⟩ : ∃ u, u = t / 2 % (2 ^ 52 - 1) := ⟨_, rfl⟩
  rw [← hu] at h1 ⊢
  rcases Nat.mod_two_eq_zero_or_one t with h | h <;> rw [h] <;> omega
theorem nanR_lt (x y : Nat) (w : World) : nanR x y w < 18446744073709551616 := by
  unfold nanR
  simp only [Question.cut]
  omega

section
variable {P : Program}
theorem run_mul_nan {x y : Nat} (h : Ieee.double.mul x y = none) (t : TypeId) (w : World) : (binOp .mul t (.float .f64 x) (.float .f64 y)).run P w = .ok (.float .f64 (nanR x y w)) w.drew := by
  have h' : FloatKind.f64.format.mul x y = none := h
  simp [binOp, Op.floatArith, h', Question.forced, nanR]
theorem run_add_nan {x y : Nat} (h : Ieee.double.add x y = none) (t : TypeId) (w : World) : (binOp .add t (.float .f64 x) (.float .f64 y)).run P w = .ok (.float .f64 (nanR x y w)) w.drew := by
  have h' : FloatKind.f64.format.add x y = none := h
  simp [binOp, Op.floatArith, h', Question.forced, nanR]
theorem run_sub_nan {x y : Nat} (h : Ieee.double.sub x y = none) (t : TypeId) (w : World) : (binOp .sub t (.float .f64 x) (.float .f64 y)).run P w = .ok (.float .f64 (nanR x y w)) w.drew := by
  have h' : FloatKind.f64.format.sub x y = none := h
  simp [binOp, Op.floatArith, h', Question.forced, nanR]
theorem run_div_nan {x y : Nat} (h : Ieee.double.div x y = none) (t : TypeId) (w : World) : (binOp .quo t (.float .f64 x) (.float .f64 y)).run P w = .ok (.float .f64 (nanR x y w)) w.drew := by
  have h' : FloatKind.f64.format.div x y = none := h
  simp [binOp, Op.floatArith, h', Question.forced, nanR]
theorem run_mul_ok {x y r : Nat} (h : Ieee.double.mul x y = some r) (t : TypeId) (w : World) : (binOp .mul t (.float .f64 x) (.float .f64 y)).run P w = .ok (.float .f64 r) w := run_float_arith w .mul t .f64 x y r h
theorem run_add_ok {x y r : Nat} (h : Ieee.double.add x y = some r) (t : TypeId) (w : World) : (binOp .add t (.float .f64 x) (.float .f64 y)).run P w = .ok (.float .f64 r) w := run_float_arith w .add t .f64 x y r h
theorem run_sub_ok {x y r : Nat} (h : Ieee.double.sub x y = some r) (t : TypeId) (w : World) : (binOp .sub t (.float .f64 x) (.float .f64 y)).run P w = .ok (.float .f64 r) w := run_float_arith w .sub t .f64 x y r h
theorem run_div_ok {x y r : Nat} (h : Ieee.double.div x y = some r) (t : TypeId) (w : World) : (binOp .quo t (.float .f64 x) (.float .f64 y)).run P w = .ok (.float .f64 r) w := run_float_arith w .quo t .f64 x y r h

theorem negFloat_eq {x : Nat} (h : x < 18446744073709551616) : Op.negFloat .f64 x = negW x := by
  show x ^^^ 9223372036854775808 = negW x
  unfold negW
  by_cases hx : 9223372036854775808 ≤ x
  · rw [if_pos hx]
    apply Nat.eq_of_testBit_eq
    intro i
    have e : x = 2 ^ 63 + (x - 9223372036854775808) := by omega
    rw [Nat.testBit_xor]
    have hp : (9223372036854775808 : Nat) = 2 ^ 63 := by decide
    by_cases hi : i = 63
    · subst hi
      rw [hp, Nat.testBit_two_pow_self, e, Nat.testBit_two_pow_add_eq]
      have : (x - 9223372036854775808).testBit 63 = false := Nat.testBit_lt_two_pow (by omega)
      rw [← hp]
      simp [this]
    · rw [hp, Nat.testBit_two_pow_of_ne (by omega), Bool.xor_false]
      by_cases hj : i < 63
      · conv => lhs; rw [e]
        rw [Nat.testBit_two_pow_add_gt hj]
      · rw [Nat.testBit_lt_two_pow (show x < 2 ^ i from Nat.lt_of_lt_of_le h (Nat.pow_le_pow_right (n := 2) (by omega) (show 64 ≤ i by omega)))]
        rw [Nat.testBit_lt_two_pow (show x - 2 ^ 63 < 2 ^ i from Nat.lt_of_lt_of_le (show x - 2 ^ 63 < 2 ^ 64 by omega) (Nat.pow_le_pow_right (n := 2) (by omega) (show 64 ≤ i by omega)))]
  · rw [if_neg hx]
    have h2 := nat_join 63 9223372036854775808 x (by decide) (by omega)
    rw [Nat.add_comm, ← h2]
    apply Nat.eq_of_testBit_eq
    intro i
    have hp : (9223372036854775808 : Nat) = 2 ^ 63 := by decide
    rw [Nat.testBit_xor, Nat.testBit_or, hp]
    by_cases hi : i = 63
    · subst hi
      have : x.testBit 63 = false := Nat.testBit_lt_two_pow (by omega)
      simp [this]
    · rw [Nat.testBit_two_pow_of_ne (by omega)]
      simp
theorem run_neg {x : Nat} (h : x < 18446744073709551616) (w : World) : (Op.unary .neg (.float .f64 x)).run P w = .ok (.float .f64 (negW x)) w := by
  show Sem.run P (pure (Value.float .f64 (Op.negFloat .f64 x))) w = _
  rw [negFloat_eq h]
  rfl
end

theorem grown_trans {a b c : World} (h1 : Grown a b) (h2 : Grown b c) : Grown a c :=
  ⟨World.keptBut_trans h1.1 h2.1, fun x => (h2.2.1 x).trans (h1.2.1 x), Nat.le_trans h1.2.2 h2.2.2⟩

theorem ret_bool {a b : Bool} (h : a = b) : Ending.returned (.bool a) = .returned (.bool b) := by rw [h]
theorem ret_f64 {a b : Nat} (h : a = b) : Ending.returned (.float .f64 a) = .returned (.float .f64 b) := by rw [h]

theorem bits_abs {x : Nat} (h : x < 18446744073709551616) : bits .andNot .u64 (x : Int) 9223372036854775808 = ((absW x : Nat) : Int) := by
  have h1 := u64_andNot_nat x 9223372036854775808 h (by decide)
  have h2 : x &&& (18446744073709551615 - 9223372036854775808) = absW x := by
    have := Nat.and_two_pow_sub_one_eq_mod x 63
    exact this
  rw [h2] at h1
  exact h1
theorem bits_sign {x : Nat} (h : x < 18446744073709551616) : bits .and .u64 (x : Int) 9223372036854775808 = ((x - absW x : Nat) : Int) := by
  have h1 := u64_and_nat x 9223372036854775808 h (by decide)
  have h2 : x &&& 9223372036854775808 = x - absW x := by
    have h3 := nat_bit 63 x
    have hp : (2 : Nat) ^ 63 = 9223372036854775808 := by decide
    rw [hp] at h3
    rw [h3]
    unfold absW
    omega
  rw [h2] at h1
  exact h1
theorem absW_lt (x : Nat) : absW x < 9223372036854775808 := Nat.mod_lt _ (by decide)
theorem signpart {y : Nat} (h : y < 18446744073709551616) : y - absW y = 0 ∨ y - absW y = 9223372036854775808 := by
  unfold absW
  omega
theorem bits_join {x y : Nat} (hy : y < 18446744073709551616) : bits .or .u64 ((absW x : Nat) : Int) ((y - absW y : Nat) : Int) = ((absW x + (y - absW y) : Nat) : Int) := by
  have a := absW_lt x
  have b := signpart hy
  have h1 := u64_or_nat (absW x) (y - absW y) (by omega) (by omega)
  have h2 := nat_join 63 (y - absW y) (absW x) (by rcases b with b | b <;> rw [b]) (by omega)
  rw [Nat.or_comm] at h2
  rw [h2, Nat.add_comm] at h1
  exact h1

/-- alike: both no number, or the same word -/
def alW (a b : Nat) : Bool := if isN a then isN b else !isN b && decide (a = b)

theorem alW_self (a : Nat) : alW a a = true := by
  unfold alW
  cases isN a <;> simp
theorem alW_nan {a b : Nat} (ha : isN a = true) (hb : isN b = true) : alW a b = true := by
  unfold alW
  rw [ha, hb]
  rfl
theorem sr64_zero {a b : Nat} (ha : a < 18446744073709551616) (hb : b < 18446744073709551616) (h : sr64 a = sr64 b) (hne : a ≠ b) : sgW a = !sgW b := by
  unfold sr64 at h
  unfold sgW
  by_cases h1 : 9223372036854775808 ≤ a <;> by_cases h2 : 9223372036854775808 ≤ b
  · rw [if_pos h1, if_pos h2] at h; omega
  · simp [h1, h2]
  · simp [h1, h2]
  · rw [if_neg h1, if_neg h2] at h; omega

theorem wf_f64 {b : Nat} (h : (Lit.float .f64 b).wf = true) : b < 18446744073709551616 := by simpa [Lit.wf] using h
theorem wf_f32 {b : Nat} (h : (Lit.float .f32 b).wf = true) : b < 4294967296 := by simpa [Lit.wf] using h
theorem wf_u640 {n : Int} (h : (Lit.int .u64 n).wf = true) : 0 ≤ n ∧ n < 18446744073709551616 := by
  simp [Lit.wf, IntKind.min, IntKind.max, IntKind.bits, IntKind.signed] at h
  omega
theorem wf_u320 {n : Int} (h : (Lit.int .u32 n).wf = true) : 0 ≤ n ∧ n < 4294967296 := by
  simp [Lit.wf, IntKind.min, IntKind.max, IntKind.bits, IntKind.signed] at h
  omega
theorem wf_u64 {n : Nat} (h : (Lit.int .u64 (n : Int)).wf = true) : n < 18446744073709551616 := by have := wf_u640 h; omega
theorem wf_u32 {n : Nat} (h : (Lit.int .u32 (n : Int)).wf = true) : n < 4294967296 := by have := wf_u320 h; omega
theorem wf_i64 {n : Int} (h : (Lit.int .i64 n).wf = true) : -9223372036854775808 ≤ n ∧ n ≤ 9223372036854775807 := by
  simp [Lit.wf, IntKind.min, IntKind.max, IntKind.bits, IntKind.signed] at h
  omega

theorem negW_lt {x : Nat} (h : x < 18446744073709551616) : negW x < 18446744073709551616 := by unfold negW; split <;> omega
theorem sgW_neg {x : Nat} (h : x < 18446744073709551616) : sgW (negW x) = !sgW x := by
  unfold negW sgW
  by_cases hx : 9223372036854775808 ≤ x
  · rw [if_pos hx]; simp [hx]; omega
  · rw [if_neg hx]; simp [hx]
theorem isN_neg {x : Nat} (h : x < 18446744073709551616) : isN (negW x) = isN x := by
  unfold negW isN
  rw [Bool.eq_iff_iff]
  simp only [decide_eq_true_eq]
  by_cases hx : 9223372036854775808 ≤ x
  · rw [if_pos hx]; omega
  · rw [if_neg hx]; omega
theorem absW_neg {x : Nat} (h : x < 18446744073709551616) : absW (negW x) = absW x := by
  unfold negW absW
  by_cases hx : 9223372036854775808 ≤ x
  · rw [if_pos hx]; omega
  · rw [if_neg hx]; omega
theorem isN_abs (x : Nat) : isN (absW x) = isN x := by unfold isN absW; rw [Nat.mod_mod]
theorem absW_abs (x : Nat) : absW (absW x) = absW x := by unfold absW; rw [Nat.mod_mod]
theorem sgW_abs (x : Nat) : sgW (absW x) = false := by
  have := absW_lt x
  unfold sgW
  simpa using this
theorem absW_lt64 (x : Nat) : absW x < 18446744073709551616 := by have := absW_lt x; omega
theorem szW_lt {x : Nat} (h : x < 18446744073709551616) : szW x < 18446744073709551616 := by
  have := absW_lt x
  unfold szW
  split <;> omega
theorem sr64_nonneg {x : Nat} (h : x < 9223372036854775808) : sr64 x = (x : Int) := by
  unfold sr64
  rw [if_neg (by omega)]
  omega

/-- the word of a sign and a rung that is no NaN's -/
def wd (s : Bool) (k : Nat) : Nat := Ieee.double.word s k
theorem wd_eq (s : Bool) (k : Nat) : wd s k = if s then 9223372036854775808 + k else k := by
  unfold wd Format.word
  rw [dbl_sw]
theorem wd_lt {s : Bool} {k : Nat} (h : k ≤ 9218868437227405312) : wd s k < 18446744073709551616 := by
  rw [wd_eq]; split <;> omega
theorem wd_sg {s : Bool} {k : Nat} (h : k ≤ 9218868437227405312) : sgW (wd s k) = s := by
  rw [wd_eq]
  unfold sgW
  cases s
  · simp; omega
  · simp
theorem wd_abs {s : Bool} {k : Nat} (h : k ≤ 9218868437227405312) : absW (wd s k) = k := by
  rw [wd_eq]
  unfold absW
  split <;> omega
theorem wd_nan {s : Bool} {k : Nat} (h : k ≤ 9218868437227405312) : isN (wd s k) = false := by
  rw [wd_eq]
  unfold isN
  simp only [decide_eq_false_iff_not]
  split <;> omega
theorem wd_self {x : Nat} (h : x < 18446744073709551616) : wd (sgW x) (absW x) = x := by
  rw [wd_eq]
  unfold sgW absW
  by_cases hx : 9223372036854775808 ≤ x
  · rw [if_pos (by simpa using hx)]; omega
  · rw [if_neg (by simpa using hx)]; omega

theorem write_form (d : Datum) (h : d.isNaN = false) : ∃ k, k ≤ 9218868437227405312 ∧ Ieee.double.write d = wd d.neg k := by
  cases d with
  | number s m p =>
    refine ⟨_, ?_, nearest_eq Ieee.double s m p⟩
    rw [dbl_inf]
    exact Nat.min_le_right _ _
  | infinity s => exact ⟨Ieee.double.infRung, by rw [dbl_inf]; exact Nat.le_refl _, rfl⟩
  | nan s t => cases h

theorem read_neg (x : Nat) : (Ieee.double.read x).neg = sg Ieee.double x := by
  rw [read_eq _ dbl_e]
  split
  · rfl
  · split <;> rfl

/-- a product that is one: its sign, and no NaN. -/
theorem mul_form {x y r : Nat} (hx : x < 18446744073709551616) (hy : y < 18446744073709551616) (h : Ieee.double.mul x y = some r) : ∃ k, k ≤ 9218868437227405312 ∧ r = wd (sgW x ^^ sgW y) k := by
  unfold Format.mul at h
  rw [← sg64 hx, ← sg64 hy, ← read_neg x, ← read_neg y]
  obtain ⟨d, hd, hr⟩ := Option.map_eq_some_iff.1 h
  have hn : d.isNaN = false ∧ d.neg = ((Ieee.double.read x).neg ^^ (Ieee.double.read y).neg) := by
    cases hrx : Ieee.double.read x <;> cases hry : Ieee.double.read y <;> rw [hrx, hry] at hd <;> simp only [Datum.product, reduceCtorEq] at hd
    · cases hd; exact ⟨rfl, rfl⟩
    · split at hd
      · cases hd
      · cases hd
        exact ⟨rfl, by simp [Datum.neg, Bool.xor_comm]⟩
    · split at hd
      · cases hd
      · cases hd; exact ⟨rfl, rfl⟩
    · cases hd; exact ⟨rfl, rfl⟩
  obtain ⟨k, hk, hw⟩ := write_form d hn.1
  exact ⟨k, hk, by rw [← hr, hw, hn.2]⟩

/-- a sum that is one is no NaN. -/
theorem add_form {x y r : Nat} (h : Ieee.double.add x y = some r) : ∃ s k, k ≤ 9218868437227405312 ∧ r = wd s k := by
  unfold Format.add at h
  obtain ⟨d, hd, hr⟩ := Option.map_eq_some_iff.1 h
  have hn : d.isNaN = false := by
    cases hrx : Ieee.double.read x <;> cases hry : Ieee.double.read y <;> rw [hrx, hry] at hd <;> simp only [Datum.sum, reduceCtorEq] at hd
    · cases hd; rfl
    · cases hd; rfl
    · cases hd; rfl
    · split at hd
      · cases hd; rfl
      · cases hd
  obtain ⟨k, hk, hw⟩ := write_form d hn
  exact ⟨d.neg, k, hk, by rw [← hr, hw]⟩

/-- equal only to itself, where that is no zero -/
theorem eq_ne {x y : Nat} (lx : x < 18446744073709551616) (ly : y < 18446744073709551616) (hy : isN y = false ∧ y % 9223372036854775808 ≠ 0) (h : ¬ x = y) : (FloatKind.f64.format.order x y == some .eq) = false := by
  by_cases hn : isN x = true
  · rw [ord_nl _ hn]; rfl
  · have hn : isN x = false := by simpa using hn
    by_cases h1 : sr64 x < sr64 y
    · rw [ord_lt lx ly hn hy.1 h1]; rfl
    · by_cases h2 : sr64 y < sr64 x
      · rw [ord_gt lx ly hn hy.1 h2]; rfl
      · exfalso
        have h3 : sr64 x = sr64 y := by omega
        have h4 := hy.2
        unfold sr64 at h3
        split at h3 <;> split at h3 <;> omega
theorem ord_le {a b : Nat} (ha : a ≤ 9218868437227405312) (hb : b ≤ 9218868437227405312) (h : a ≤ b) :
    FloatKind.f64.format.order a b = some .lt ∨ FloatKind.f64.format.order a b = some .eq := by
  have na : isN a = false := by unfold isN; simp only [decide_eq_false_iff_not]; omega
  have nb : isN b = false := by unfold isN; simp only [decide_eq_false_iff_not]; omega
  have ea := sr64_nonneg (x := a) (by omega)
  have eb := sr64_nonneg (x := b) (by omega)
  by_cases e : a = b
  · subst e
    exact Or.inr (ord_self (by omega) na)
  · exact Or.inl (ord_lt (by omega) (by omega) na nb (by rw [ea, eb]; omega))

theorem ord_gtw {a b : Nat} (ha : a ≤ 9218868437227405312) (hb : b ≤ 9218868437227405312) (h : b < a) :
    FloatKind.f64.format.order a b = some .gt := by
  have na : isN a = false := by unfold isN; simp only [decide_eq_false_iff_not]; omega
  have nb : isN b = false := by unfold isN; simp only [decide_eq_false_iff_not]; omega
  have ea := sr64_nonneg (x := a) (by omega)
  have eb := sr64_nonneg (x := b) (by omega)
  exact ord_gt (by omega) (by omega) na nb (by rw [ea, eb]; omega)
theorem ord_ltw {a b : Nat} (ha : a ≤ 9218868437227405312) (hb : b ≤ 9218868437227405312) (h : a < b) :
    FloatKind.f64.format.order a b = some .lt := by
  have na : isN a = false := by unfold isN; simp only [decide_eq_false_iff_not]; omega
  have nb : isN b = false := by unfold isN; simp only [decide_eq_false_iff_not]; omega
  have ea := sr64_nonneg (x := a) (by omega)
  have eb := sr64_nonneg (x := b) (by omega)
  exact ord_lt (by omega) (by omega) na nb (by rw [ea, eb]; omega)
end Go.Proofs.Ytginlhkoeabjgaa
