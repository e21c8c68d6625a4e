/-
  Words of 32 bits: what is no number, the order of two words; from 32 to 64 bits and back.
-/
import Derived.Test.YtginlhkoeabjgaaDbl
namespace Go.Proofs.Ytginlhkoeabjgaa
open Ieee Num Go.RowKit

def isN32 (x : Nat) : Bool := decide (2139095040 < x % 2147483648)
def sgW32 (x : Nat) : Bool := decide (2147483648 ≤ x)
def sr32 (x : Nat) : Int := if 2147483648 ≤ x then -((x % 2147483648 : Nat) : Int) else ((x % 2147483648 : Nat) : Int)

theorem sgl_inf : Ieee.single.infRung = 2139095040 := by decide +kernel
theorem sgl_sw : Ieee.single.signWeight = 2147483648 := by decide +kernel
theorem sgl_e : 0 < Ieee.single.exponentBits := by decide
theorem sgl_lp : Ieee.single.leastPlace = -149 := by decide +kernel
theorem sgl_fb : Ieee.single.fractionBits = 23 := rfl

theorem rg32 (x : Nat) : rg Ieee.single x = x % 2147483648 := by unfold rg; rw [sgl_sw]
theorem sg32 {x : Nat} (h : x < 4294967296) : sg Ieee.single x = sgW32 x := by
  unfold sg sgW32
  rw [sgl_sw, Bool.eq_iff_iff]
  simp only [beq_iff_eq, decide_eq_true_eq]
  omega
theorem sr32_eq {x : Nat} (h : x < 4294967296) : sr Ieee.single x = sr32 x := by
  unfold sr sr32
  rw [sg32 h, rg32]
  unfold sgW32
  simp only [decide_eq_true_eq]
theorem isN32_lt {x : Nat} (h : isN32 x = false) : rg Ieee.single x ≤ Ieee.single.infRung := by
  rw [rg32, sgl_inf]
  unfold isN32 at h
  simp only [decide_eq_false_iff_not] at h
  omega
theorem isN32_gt {x : Nat} (h : isN32 x = true) : Ieee.single.infRung < rg Ieee.single x := by
  rw [rg32, sgl_inf]
  unfold isN32 at h
  simpa using h

theorem ord32_nl {x : Nat} (y : Nat) (h : isN32 x = true) : FloatKind.f32.format.order x y = none := order_nan_left sgl_e y (isN32_gt h)
theorem ord32_nr (x : Nat) {y : Nat} (h : isN32 y = true) : FloatKind.f32.format.order x y = none := order_nan_right sgl_e x (isN32_gt h)
theorem ord32 {x y : Nat} (lx : x < 4294967296) (ly : y < 4294967296) (hx : isN32 x = false) (hy : isN32 y = false) :
    FloatKind.f32.format.order x y = some (compare (sr32 x) (sr32 y)) := by
  have := order_eq sgl_e (isN32_lt hx) (isN32_lt hy)
  rw [sr32_eq lx, sr32_eq ly] at this
  exact this
theorem ord32_self {x : Nat} (lx : x < 4294967296) (hx : isN32 x = false) : FloatKind.f32.format.order x x = some .eq := by
  rw [ord32 lx lx hx hx, cmp_eq rfl]

/-- the word of 64 bits of the number of a word of 32 bits. -/
def widW (b : Nat) : Nat := Ieee.double.write (Ieee.single.read b)

/-- the magnitudes of 32 bits are magnitudes of 64 bits. -/
theorem wid_rung {b : Nat} (h : rg Ieee.single b < Ieee.single.infRung) :
    ∃ k, k < 9218868437227405312 ∧ val 52 k = val 23 (rg Ieee.single b) * 2 ^ 925 ∧ widW b = wd (sg Ieee.single b) k := by
  unfold widW
  rw [read_fin sgl_e h]
  obtain ⟨k, hk⟩ := repr_val 52 (mg 23 (rg Ieee.single b)) (pl 23 (rg Ieee.single b) + 925) (Nat.lt_of_lt_of_le (mg_lt' 23 _) (Nat.pow_le_pow_right (by omega) (by omega)))
  have hv : val 52 k = val 23 (rg Ieee.single b) * 2 ^ 925 := by
    rw [hk]
    unfold val
    rw [Nat.pow_add, Nat.mul_assoc]
  have hK : k < 9218868437227405312 := by
    rw [← val_lt_iff (fb := 52), hv]
    have hb : rg Ieee.single b < 2139095040 := by rw [sgl_inf] at h; exact h
    have h1 := val_lt (fb := 23) hb
    obtain ⟨u, hu⟩ : ∃ u : Nat, u = 277 := ⟨_, rfl⟩
    obtain ⟨v, hv'⟩ : ∃ v : Nat, v = 2098 := ⟨_, rfl⟩
    obtain ⟨c, hc⟩ : ∃ c : Nat, c = 925 := ⟨_, rfl⟩
    have e1 : val 23 2139095040 = 2 ^ u := val_binade' 254 (by decide) hu
    have e2 : val 52 9218868437227405312 = 2 ^ v := val_binade' 2046 (by decide) hv'
    rw [e1] at h1
    rw [e2, ← hc]
    have h2 : val 23 (rg Ieee.single b) * 2 ^ c < 2 ^ u * 2 ^ c := (Nat.mul_lt_mul_right (Nat.two_pow_pos _)).2 h1
    have h3 : (2 : Nat) ^ u * 2 ^ c ≤ 2 ^ v := by rw [← Nat.pow_add]; exact Nat.pow_le_pow_right (by omega) (by omega)
    exact Nat.lt_of_lt_of_le h2 h3
  refine ⟨k, hK, hv, ?_⟩
  show Ieee.double.nearest _ _ _ = _
  rw [nearest_eq, sgl_lp, dbl_lp, dbl_inf]
  unfold wd
  congr 1
  have p1 : (-149 + (pl Ieee.single.fractionBits (rg Ieee.single b) : Int) - -1074).toNat = pl 23 (rg Ieee.single b) + 925 := by rw [sgl_fb]; omega
  have p2 : (-1074 - (-149 + (pl Ieee.single.fractionBits (rg Ieee.single b) : Int))).toNat = 0 := by omega
  rw [p1, p2, dbl_fb, sgl_fb, ← hk, rnd_val]
  omega

theorem wid_inf {b : Nat} (h : rg Ieee.single b = Ieee.single.infRung) : widW b = wd (sg Ieee.single b) 9218868437227405312 := by
  unfold widW
  rw [read_inf sgl_e h]
  show Ieee.double.word _ _ = _
  rw [dbl_inf]
  rfl

theorem wid_form {b : Nat} (hb : b < 4294967296) (h : isN32 b = false) : ∃ k, k ≤ 9218868437227405312 ∧ widW b = wd (sgW32 b) k := by
  have h1 := isN32_lt h
  rw [← sg32 hb]
  by_cases h2 : rg Ieee.single b < Ieee.single.infRung
  · obtain ⟨k, hk, _, hw⟩ := wid_rung h2
    exact ⟨k, by omega, hw⟩
  · exact ⟨_, Nat.le_refl _, wid_inf (by omega)⟩

theorem wid_lt {b : Nat} (hb : b < 4294967296) (h : isN32 b = false) : widW b < 18446744073709551616 := by
  obtain ⟨k, hk, hw⟩ := wid_form hb h
  rw [hw]
  exact wd_lt hk
theorem wid_isN {b : Nat} (hb : b < 4294967296) (h : isN32 b = false) : isN (widW b) = false := by
  obtain ⟨k, hk, hw⟩ := wid_form hb h
  rw [hw]
  exact wd_nan hk

theorem wid_notinf {b : Nat} (h : rg Ieee.single b < Ieee.single.infRung) : (Ieee.double.read (widW b)).isInfinity = false := by
  obtain ⟨k, hk, _, hw⟩ := wid_rung h
  rw [hw, read_fin dbl_e (by rw [rg64, dbl_inf]; have := wd_abs (s := sg Ieee.single b) (k := k) (by omega); unfold absW at this; omega)]
  rfl

theorem wid_bits {b : Nat} (h : isN32 b = false) : floatToFloatBits .f32 b .f64 = some (widW b) := by
  have h1 := isN32_lt h
  unfold floatToFloatBits
  rw [if_neg (by decide)]
  by_cases h2 : rg Ieee.single b < Ieee.single.infRung
  · have e := read_fin sgl_e h2
    have e' : FloatKind.f32.decode b = _ := e
    rw [e']
    dsimp only
    have hw : FloatKind.f64.encode (.number (sg Ieee.single b) (mg Ieee.single.fractionBits (rg Ieee.single b)) (Ieee.single.leastPlace + (pl Ieee.single.fractionBits (rg Ieee.single b) : Int))) = widW b := by
      unfold widW
      rw [e]
      rfl
    rw [hw]
    have hi : (FloatKind.f64.decode (widW b)).isInfinity = false := wid_notinf h2
    rw [hi]
    rfl
  · have e := read_inf sgl_e (show rg Ieee.single b = Ieee.single.infRung by omega)
    have e' : FloatKind.f32.decode b = _ := e
    rw [e']
    dsimp only
    unfold widW
    rw [e]
    rfl

theorem single_read_word {s : Bool} {k : Nat} (hk : k < 2147483648) : rg Ieee.single (Ieee.single.word s k) = k ∧ sg Ieee.single (Ieee.single.word s k) = s := by
  unfold rg sg Format.word
  rw [sgl_sw]
  cases s
  · simp only [Bool.false_eq_true, if_false]
    refine ⟨by omega, ?_⟩
    rw [Bool.eq_false_iff]
    simp only [ne_eq, beq_iff_eq]
    omega
  · simp only [if_true]
    refine ⟨by omega, ?_⟩
    simp only [beq_iff_eq]
    omega

theorem word_self {b : Nat} (hb : b < 4294967296) : Ieee.single.word (sg Ieee.single b) (rg Ieee.single b) = b := by
  rw [sg32 hb, rg32]
  unfold Format.word sgW32
  rw [sgl_sw]
  by_cases h : 2147483648 ≤ b
  · rw [if_pos (by simpa using h)]; omega
  · rw [if_neg (by simpa using h)]; omega

/-- back to 32 bits: a number whose magnitude is one of 32 bits. -/
theorem narrow_exact {x k r : Nat} {s : Bool} (hx : x = wd s k) (hk : k < 9218868437227405312) (hr : r < 2139095040) (hv : val 52 k = val 23 r * 2 ^ 925) :
    floatToFloatBits .f64 x .f32 = some (Ieee.single.word s r) := by
  have hrg : rg Ieee.double x = k := by
    rw [rg64, hx]
    have := wd_abs (s := s) (k := k) (by omega)
    unfold absW at this
    exact this
  have hsg : sg Ieee.double x = s := by
    rw [sg64 (by rw [hx]; exact wd_lt (by omega)), hx]
    exact wd_sg (by omega)
  have e := read_fin dbl_e (w := x) (by rw [hrg, dbl_inf]; exact hk)
  have e' : FloatKind.f64.decode x = _ := e
  unfold floatToFloatBits
  rw [if_neg (by decide), e']
  dsimp only
  have hw : FloatKind.f32.encode (.number (sg Ieee.double x) (mg Ieee.double.fractionBits (rg Ieee.double x)) (Ieee.double.leastPlace + (pl Ieee.double.fractionBits (rg Ieee.double x) : Int))) = Ieee.single.word s r := by
    show Ieee.single.nearest _ _ _ = _
    rw [nearest_eq, hsg, hrg, dbl_lp, sgl_lp, sgl_inf, dbl_fb, sgl_fb]
    congr 1
    have hx2 : rnd 23 (mg 52 k * 2 ^ (-1074 + (pl 52 k : Int) - -149).toNat) (-149 - (-1074 + (pl 52 k : Int))).toNat = r := by
      obtain ⟨c, hc⟩ : ∃ c : Nat, c = 925 := ⟨_, rfl⟩
      rw [← hc] at hv
      rw [rnd_cross 23 (m := val 52 k) (c := c)]
      · exact rnd_exact hv
      · unfold val
        rw [Nat.mul_assoc, Nat.mul_assoc, ← Nat.pow_add, ← Nat.pow_add]
        congr 2
        omega
    rw [hx2]
    omega
  rw [hw]
  have hi : (FloatKind.f32.decode (Ieee.single.word s r)).isInfinity = false := by
    have h1 := single_read_word (s := s) (k := r) (by omega)
    have e2 : FloatKind.f32.decode (Ieee.single.word s r) = _ := read_fin sgl_e (w := Ieee.single.word s r) (by rw [h1.1, sgl_inf]; exact hr)
    rw [e2]
    rfl
  rw [hi]
  rfl

theorem narrow_inf {x : Nat} {s : Bool} (hx : x = wd s 9218868437227405312) : floatToFloatBits .f64 x .f32 = some (Ieee.single.word s 2139095040) := by
  subst hx
  cases s <;> decide +kernel

theorem narrow_back {b : Nat} (hb : b < 4294967296) (h : isN32 b = false) : floatToFloatBits .f64 (widW b) .f32 = some b := by
  have h1 := isN32_lt h
  by_cases h2 : rg Ieee.single b < Ieee.single.infRung
  · obtain ⟨k, hk, hv, hw⟩ := wid_rung h2
    rw [narrow_exact hw hk (by rw [← sgl_inf]; exact h2) hv, word_self hb]
  · have h3 : rg Ieee.single b = Ieee.single.infRung := by omega
    rw [narrow_inf (wid_inf h3), ← sgl_inf, ← h3, word_self hb]

/-- the NaN that a conversion to 64 bits draws -/
def nanC (b : Nat) (w : World) : Nat := (Question.nanConv .f64 b).cut (w.tape w.drawn (.nanConv .f64 b))
theorem nanC_isN (b : Nat) (w : World) : isN (nanC b w) = true := by
  unfold nanC isN
  rw [decide_eq_true_eq]
  simp only [Question.cut]
  obtain ⟨t, ht⟩ : ∃ t, t = w.tape w.drawn (Question.nanConv FloatKind.f64 b) := ⟨_, rfl⟩
  rw [← ht]
  have h1 : t / 2 % (2 ^ 52 - 1) < 2 ^ 52 - 1 := Nat.mod_lt _ (by decide)
  obtain ⟨u, hu⟩ : ∃ u, u = t / 2 % (2 ^ 52 - 1) := ⟨_, rfl⟩
  rw [← hu] at h1 ⊢
  rcases Nat.mod_two_eq_zero_or_one t with h | h <;> rw [h] <;> omega
theorem nanC_lt (b : Nat) (w : World) : nanC b w < 18446744073709551616 := by
  unfold nanC
  simp only [Question.cut]
  omega
/-- the NaN that a conversion to 32 bits draws -/
def nanD (x : Nat) (w : World) : Nat := (Question.nanConv .f32 x).cut (w.tape w.drawn (.nanConv .f32 x))
theorem nanD_isN (b : Nat) (w : World) : isN32 (nanD b w) = true := by
  unfold nanD isN32
  rw [decide_eq_true_eq]
  simp only [Question.cut]
  obtain ⟨t, ht⟩ : ∃ t, t = w.tape w.drawn (Question.nanConv FloatKind.f32 b) := ⟨_, rfl⟩
  rw [← ht]
  have h1 : t / 2 % (2 ^ 23 - 1) < 2 ^ 23 - 1 := Nat.mod_lt _ (by decide)
  obtain ⟨u, hu⟩ : ∃ u, u = t / 2 % (2 ^ 23 - 1) := ⟨_, rfl⟩
  rw [← hu] at h1 ⊢
  rcases Nat.mod_two_eq_zero_or_one t with h | h <;> rw [h] <;> omega
theorem nanD_lt (b : Nat) (w : World) : nanD b w < 4294967296 := by
  unfold nanD
  simp only [Question.cut]
  omega

section
variable {P : Program}
theorem run_conv_nan {b : Nat} (h : isN32 b = true) (src dst : TypeId) (hs : (P.underlying src).isSome = true) (hd : P.underlying dst = some (.float .f64)) (w : World) :
    (convert src dst (.float .f32 b)).run P w = .ok (.float .f64 (nanC b w)) w.drew := by
  obtain ⟨u, hs'⟩ := Option.isSome_iff_exists.1 hs
  have e : FloatKind.f32.decode b = _ := read_nan sgl_e (isN32_gt h)
  cases u <;> simp [convert, run_underlying hs', run_underlying hd, Conv.floatToFloat, e, Question.forced, nanC]
theorem run_conv_nan32 {b : Nat} (h : isN b = true) (src dst : TypeId) (hs : (P.underlying src).isSome = true) (hd : P.underlying dst = some (.float .f32)) (w : World) :
    (convert src dst (.float .f64 b)).run P w = .ok (.float .f32 (nanD b w)) w.drew := by
  obtain ⟨u, hs'⟩ := Option.isSome_iff_exists.1 hs
  have e : FloatKind.f64.decode b = _ := read_nan dbl_e (isN_gt h)
  cases u <;> simp [convert, run_underlying hs', run_underlying hd, Conv.floatToFloat, e, Question.forced, nanD]
end

/-- the word of 64 bits of a usual number of 32 bits -/
theorem wid_usual {b : Nat} (hb : b < 4294967296) (h0 : ¬ b / 8388608 % 256 = 0) (h5 : ¬ b / 8388608 % 256 = 255) :
    widW b = b / 2147483648 * 9223372036854775808 + (b / 8388608 % 256 + 896) * 4503599627370496 + b % 8388608 * 536870912 := by
  have hr : rg Ieee.single b = b % 2147483648 := rg32 b
  obtain ⟨r, hr'⟩ : ∃ r, r = b % 2147483648 := ⟨_, rfl⟩
  rw [← hr'] at hr
  obtain ⟨k, hk, hv, hw⟩ := wid_rung (b := b) (by rw [hr, sgl_inf]; omega)
  rw [hr] at hv
  obtain ⟨c, hc⟩ : ∃ c : Nat, c = 925 := ⟨_, rfl⟩
  rw [← hc] at hv
  have q1 : r / 8388608 = b / 8388608 % 256 := by omega
  have q2 : r % 8388608 = b % 8388608 := by omega
  have hkk : k = (r / 8388608 + 896) * 4503599627370496 + r % 8388608 * 536870912 := by
    rw [← val_inj (fb := 52), hv]
    unfold val
    have t : r % 8388608 < 8388608 := Nat.mod_lt _ (by decide)
    have m1 : mg 23 r = 8388608 + r % 8388608 := mg_high (fb := 23) (show 8388608 ≤ r by omega)
    have m2 : mg 52 ((r / 8388608 + 896) * 4503599627370496 + r % 8388608 * 536870912) = (8388608 + r % 8388608) * 536870912 := by
      rw [mg_high (show 2 ^ 52 ≤ (r / 8388608 + 896) * 4503599627370496 + r % 8388608 * 536870912 by omega)]
      show 4503599627370496 + ((r / 8388608 + 896) * 4503599627370496 + r % 8388608 * 536870912) % 4503599627370496 = _
      omega
    have p1 : pl 23 r = r / 8388608 - 1 := rfl
    have p2 : pl 52 ((r / 8388608 + 896) * 4503599627370496 + r % 8388608 * 536870912) = r / 8388608 + 895 := by
      show ((r / 8388608 + 896) * 4503599627370496 + r % 8388608 * 536870912) / 4503599627370496 - 1 = _
      omega
    rw [m1, m2, p1, p2]
    have e : (536870912 : Nat) = 2 ^ 29 := by decide
    rw [e, Nat.mul_assoc, Nat.mul_assoc, ← Nat.pow_add, ← Nat.pow_add]
    congr 2
    omega
  rw [hw, wd_eq, sg32 hb, hkk, q1, q2]
  unfold sgW32
  by_cases hs : 2147483648 ≤ b
  · rw [if_pos (by simpa using hs)]; omega
  · rw [if_neg (by simpa using hs)]; omega
end Go.Proofs.Ytginlhkoeabjgaa
