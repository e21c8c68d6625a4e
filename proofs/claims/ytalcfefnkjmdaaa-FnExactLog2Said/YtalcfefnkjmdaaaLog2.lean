/-
  Plain facts on exponents: twice a number, the greatest power of two below it, products.
-/
import Derived.Test.YtalcfefnkjmdaaaLog
namespace Go.Proofs.Ytalcfefnkjmdaaa
open Ieee Num Go.RowKit

/-- a usual magnitude, taken apart -/
theorem usual_val {r : Nat} (h : 4503599627370496 ≤ r) : ∃ t, t < 4503599627370496 ∧ val 52 r = (4503599627370496 + t) * 2 ^ (xp r - 52) ∧ 52 ≤ xp r := by
  have hx := xp_usual h
  refine ⟨r % 4503599627370496, Nat.mod_lt _ (by decide), ?_, by omega⟩
  unfold val
  rw [mg_high (fb := 52) h]
  show (4503599627370496 + r % 4503599627370496) * 2 ^ (r / 4503599627370496 - 1) = _
  congr 2
  omega

theorem xp_le {u r : Nat} (h : pw u ≤ r) : u ≤ xp r := by
  have hv : 2 ^ u ≤ val 52 r := by rw [← pw_val]; exact val_le h
  have h0 : val 52 r ≠ 0 := by have := Nat.two_pow_pos u; omega
  exact (Nat.le_log2 h0).2 hv
theorem xp_lt {u r : Nat} (h0 : 0 < r) (h : r < pw u) : xp r < u := by
  have hv : val 52 r < 2 ^ u := by rw [← pw_val]; exact val_lt h
  have hn : val 52 r ≠ 0 := by have := val_pos (fb := 52) h0; omega
  exact (Nat.log2_lt hn).2 hv
theorem pw_xp {r : Nat} (h0 : 0 < r) : pw (xp r) ≤ r := by
  apply Nat.le_of_not_lt
  intro h
  have := xp_lt h0 h
  omega

/-- a usual number less the greatest power of two below it is less than that -/
theorem sub_pw {r : Nat} (h : 4503599627370496 ≤ r) (h2 : r < 9218868437227405312) : ∃ d, Ieee.double.sub r (pw (xp r)) = some d ∧ d < pw (xp r) := by
  obtain ⟨t, ht, hv, hx⟩ := usual_val h
  have hb := xp_bd (by omega) h2
  obtain ⟨d, hd⟩ := repr_val 52 t (xp r - 52) (Nat.lt_trans ht (by decide))
  have hp := pw_bd hb
  have e1 : 2 ^ xp r = 4503599627370496 * 2 ^ (xp r - 52) := by
    rw [show (4503599627370496 : Nat) = 2 ^ 52 by decide, ← Nat.pow_add]
    congr 1
    omega
  have e2 : val 52 r = 2 ^ xp r + val 52 d := by rw [hv, e1, hd, Nat.add_mul]
  have hlt : d < pw (xp r) := by
    rw [← val_lt_iff (fb := 52), pw_val, e1, hd]
    exact (Nat.mul_lt_mul_right (Nat.two_pow_pos _)).2 ht
  refine ⟨d, ?_, hlt⟩
  rw [sub_fin dbl_e (fin_small h2) (fin_small hp), sv_small h2, sv_small hp, pw_val]
  congr 1
  by_cases hz : val 52 d = 0
  · have hd0 : d = 0 := by
      apply Classical.byContradiction
      intro hne
      have := val_pos (fb := 52) (r := d) (by omega)
      omega
    subst hd0
    unfold sumWord
    rw [if_pos (by omega), sg_small h2, show ((val 52 r : Int) + -((2 ^ xp r : Nat) : Int)).natAbs = 0 by omega, rnd_zero, Nat.zero_min]
    rfl
  · refine sum_pos _ _ (by omega) (by omega) ?_
    rw [show ((val 52 r : Int) + -((2 ^ xp r : Nat) : Int)).natAbs = val 52 d by omega, rnd_val]

/-- twice a number -/
theorem twice {x : Nat} (hx : x < 18446744073709551616) (hn : isN x = false) :
    ∃ k, k ≤ 9218868437227405312 ∧ Ieee.double.mul 4611686018427387904 x = some (wd (sgW x) k) ∧ (4503599627370496 ≤ absW x → k < 9218868437227405312 → k = absW x + 4503599627370496) := by
  have hp := pw_bd (u := 1075) (by omega)
  rw [pw_two] at hp
  by_cases hf : absW x < 9218868437227405312
  · have hr : rg Ieee.double x = absW x := rg64 x
    rw [mul_fin dbl_e dbl_lp0 (fin_small hp) (by rw [hr, dbl_inf]; exact hf), sg_small hp, sg64 hx, rg_small hp, hr, lpN, dbl_inf, dbl_fb, Bool.false_xor]
    refine ⟨_, Nat.min_le_right _ _, rfl, ?_⟩
    intro hu hk
    obtain ⟨m, hm⟩ : ∃ m, m = rnd 52 (val 52 4611686018427387904 * val 52 (absW x)) Zp := ⟨_, rfl⟩
    rw [← hm] at hk ⊢
    have e : m = absW x + 4503599627370496 := by
      rw [hm]
      apply rnd_exact
      have hxp := xp_usual hu
      have e1 : val 52 (absW x + 4503599627370496) = 2 * val 52 (absW x) := by
        unfold val
        rw [mg_high (fb := 52) hu, mg_high (fb := 52) (show 2 ^ 52 ≤ absW x + 4503599627370496 by omega)]
        unfold pl
        show (4503599627370496 + (absW x + 4503599627370496) % 4503599627370496) * 2 ^ ((absW x + 4503599627370496) / 4503599627370496 - 1) = 2 * ((4503599627370496 + absW x % 4503599627370496) * 2 ^ (absW x / 4503599627370496 - 1))
        rw [Nat.add_mod_right, show (absW x + 4503599627370496) / 4503599627370496 - 1 = absW x / 4503599627370496 - 1 + 1 by omega, Nat.pow_succ]
        generalize 2 ^ (absW x / 4503599627370496 - 1) = p
        generalize 4503599627370496 + absW x % 4503599627370496 = q
        rw [Nat.mul_comm 2, Nat.mul_assoc]
      rw [e1, ← pw_two, pw_val]
      have hz := Zp_eq
      rw [show (1075 : Nat) = 1 + Zp by omega, Nat.pow_add, Nat.pow_one, Nat.mul_assoc, Nat.mul_assoc, Nat.mul_comm (2 ^ Zp)]
    omega
  · refine ⟨9218868437227405312, Nat.le_refl _, ?_, fun _ h => by omega⟩
    have he : absW x = 9218868437227405312 := by
      unfold isN at hn
      unfold absW at hf ⊢
      simp only [decide_eq_false_iff_not] at hn
      omega
    have hs := wd_self hx
    rw [he] at hs
    rw [← hs]
    cases sgW x <;> decide +kernel

/-- below the middle of two smallest numbers: not above the lower -/
theorem rnd_low {n d r : Nat} (hr : r < 4503599627370496) (h : 2 * n < (2 * r + 1) * 2 ^ d) : rnd 52 n d ≤ r := by
  by_cases h0 : n = 0
  · rw [h0, rnd_zero]; exact Nat.zero_le _
  · have hb : n < 2 ^ (52 + d) := by
      rw [Nat.pow_add]
      have h1 : (2 * r + 1) * 2 ^ d ≤ (2 * 4503599627370496) * 2 ^ d := Nat.mul_le_mul_right _ (by omega)
      have h2 : (2 : Nat) ^ 52 = 4503599627370496 := by decide
      rw [h2]
      rw [Nat.mul_assoc] at h1
      omega
    have hl := (Nat.log2_lt h0).2 hb
    unfold rnd
    rw [show n.log2 - (d + 52) = 0 by omega, Nat.zero_mul, Nat.zero_add, Nat.zero_add]
    exact rhe_le_of h

/-- the exponent of a rounded product of usual numbers, if that is a usual number -/
theorem prod_xp {r t k : Nat} (hr : 4503599627370496 ≤ r) (ht : 4503599627370496 ≤ t) (hk : 4503599627370496 ≤ k) (hk2 : k < 9218868437227405312)
    (h : k = rnd 52 (val 52 r * val 52 t) Zp) : xp k + 1074 = xp r + xp t ∨ xp k + 1074 = xp r + xp t + 1 := by
  obtain ⟨a, ha, hva, hxa⟩ := usual_val hr
  obtain ⟨b, hb, hvb, hxb⟩ := usual_val ht
  have hz := Zp_eq
  have hxk := xp_usual hk
  have p1 : (1 : Nat) * 2 ^ 52 = 4503599627370496 := by decide
  -- the product
  obtain ⟨c, hc⟩ : ∃ c, c = (xp r - 52) + (xp t - 52) := ⟨_, rfl⟩
  have hP : val 52 r * val 52 t = ((4503599627370496 + a) * (4503599627370496 + b)) * 2 ^ c := by
    rw [hva, hvb, hc, Nat.pow_add]
    simp only [Nat.mul_assoc, Nat.mul_left_comm]
  have lo : 4503599627370496 * 4503599627370496 ≤ (4503599627370496 + a) * (4503599627370496 + b) := Nat.mul_le_mul (by omega) (by omega)
  have hi : (4503599627370496 + a) * (4503599627370496 + b) ≤ 9007199254740991 * 9007199254740991 := Nat.mul_le_mul (by omega) (by omega)
  obtain ⟨m, hm⟩ : ∃ m, m = (4503599627370496 + a) * (4503599627370496 + b) := ⟨_, rfl⟩
  rw [← hm] at lo hi hP
  -- below
  have below : xp r + xp t ≤ xp k + 1074 := by
    by_cases hs : 1074 ≤ xp r + xp t
    · have : pw (xp r + xp t - 1074) ≤ k := by
        rw [h]
        apply rnd_ge_of
        rw [pw_val, hP, ← Nat.pow_add]
        have e : xp r + xp t - 1074 + Zp = 104 + c := by omega
        rw [e, Nat.pow_add]
        refine Nat.mul_le_mul_right _ ?_
        have : (2 : Nat) ^ 104 = 4503599627370496 * 4503599627370496 := by decide
        omega
      have := xp_le this
      omega
    · omega
  -- above
  have above : xp k + 1074 ≤ xp r + xp t + 1 := by
    by_cases hs : 1125 ≤ xp r + xp t
    · have hU : ∃ g, val 52 g = 9007199254740991 * 2 ^ (xp r + xp t - 1125) := repr_val 52 9007199254740991 (xp r + xp t - 1125) (by decide)
      obtain ⟨g, hg⟩ := hU
      have hkg : k ≤ g := by
        rw [h]
        apply rnd_le_of
        rw [hP, hg, Nat.mul_assoc, ← Nat.pow_add]
        have e : xp r + xp t - 1125 + Zp = 53 + c := by omega
        rw [e, Nat.pow_add, ← Nat.mul_assoc]
        refine Nat.mul_le_mul_right _ ?_
        have : (9007199254740991 : Nat) * 9007199254740991 ≤ 9007199254740991 * 2 ^ 53 := by decide
        omega
      have hgp : g < pw (xp r + xp t - 1072) := by
        rw [← val_lt_iff (fb := 52), hg, pw_val]
        have e : xp r + xp t - 1072 = 53 + (xp r + xp t - 1125) := by omega
        rw [e, Nat.pow_add]
        exact (Nat.mul_lt_mul_right (Nat.two_pow_pos _)).2 (by decide)
      have := xp_lt (r := k) (by omega) (Nat.lt_of_le_of_lt hkg hgp)
      omega
    · exfalso
      have : k ≤ 4503599627370495 := by
        rw [h]
        apply rnd_low (by decide)
        rw [hP]
        -- c is at most 1020
        have hc2 : c ≤ 1020 := by omega
        have e : (2 : Nat) ^ c ≤ 2 ^ (Zp - 54) := Nat.pow_le_pow_right (by omega) (by omega)
        have e2 : 2 ^ Zp = 18014398509481984 * 2 ^ (Zp - 54) := by
          rw [show (18014398509481984 : Nat) = 2 ^ 54 by decide, ← Nat.pow_add]
          congr 1
        have s1 : 2 * (m * 2 ^ c) ≤ (2 * m) * 2 ^ (Zp - 54) := by
          rw [← Nat.mul_assoc]
          exact Nat.mul_le_mul_left _ e
        have s2 : (2 * m) * 2 ^ (Zp - 54) < ((2 * 4503599627370495 + 1) * 18014398509481984) * 2 ^ (Zp - 54) := by
          apply (Nat.mul_lt_mul_right (Nat.two_pow_pos _)).2
          omega
        rw [e2, ← Nat.mul_assoc (2 * 4503599627370495 + 1)]
        exact Nat.lt_of_le_of_lt s1 s2
      omega
  omega

theorem usual_not {r : Nat} (h : ¬ r < 4503599627370496) (h2 : r < 9218868437227405312) : (FloatKind.f64.format.order r 4503599627370496 == some .lt) = false := by
  by_cases e : r = 4503599627370496
  · rw [e]; decide +kernel
  · rw [ord_gtw (by omega) (by decide) (by omega)]; rfl
end Go.Proofs.Ytalcfefnkjmdaaa
