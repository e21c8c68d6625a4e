/-
  Plain arithmetic of rounding, with no program in sight: 'rnd' is the rung (the number of a magnitude, counted from zero) of a dyadic number, to the nearest, ties to even; it is monotone, and exact on the magnitudes of the format. What reading, writing, ordering, adding and multiplying words of a format give is told by it.
-/
import Ieee.Arith
import Derived.Laws.FloatBits
namespace Go.Proofs.Ytjmmoimfdalekaa.Num
open Ieee

/-- n / g to the nearest, ties to even. -/
def rhe (n g : Nat) : Nat := n / g + (if g < 2 * (n % g) ∨ (g = 2 * (n % g) ∧ n / g % 2 = 1) then 1 else 0)

theorem rhe_zero (g : Nat) (hg : 0 < g) : rhe 0 g = 0 := by
  unfold rhe
  rw [Nat.zero_div, Nat.zero_mod, if_neg (by omega)]

theorem rhe_ge_div (n g : Nat) : n / g ≤ rhe n g := by unfold rhe; omega

theorem rhe_le_succ (n g : Nat) : rhe n g ≤ n / g + 1 := by unfold rhe; split <;> omega

theorem rhe_mono {n m : Nat} (g : Nat) (h : n ≤ m) : rhe n g ≤ rhe m g := by
  have h1 : n / g ≤ m / g := Nat.div_le_div_right h
  by_cases h2 : n / g < m / g
  · exact Nat.le_trans (rhe_le_succ n g) (Nat.le_trans h2 (rhe_ge_div m g))
  · have h3 : n / g = m / g := by omega
    have h4 : n % g ≤ m % g := by
      have a := Nat.div_add_mod n g
      have b := Nat.div_add_mod m g
      rw [h3] at a
      omega
    unfold rhe
    rw [h3]
    split <;> split <;> omega

theorem rhe_exact (k g : Nat) (hg : 0 < g) : rhe (k * g) g = k := by
  unfold rhe
  rw [Nat.mul_div_cancel _ hg, Nat.mul_mod_left]
  rw [if_neg (by omega)]
  rfl

theorem rhe_scale (n g c : Nat) (hc : 0 < c) : rhe (n * c) (g * c) = rhe n g := by
  unfold rhe
  rw [Nat.mul_div_mul_right _ _ hc, Nat.mul_mod_mul_right]
  have e : 2 * (n % g * c) = (2 * (n % g)) * c := by rw [Nat.mul_assoc]
  rw [e]
  have h1 : (g * c < 2 * (n % g) * c) = (g < 2 * (n % g)) := propext (Nat.mul_lt_mul_right hc)
  have h2 : (g * c = 2 * (n % g) * c) = (g = 2 * (n % g)) := propext (Nat.mul_left_inj (by omega))
  simp only [h1, h2]

/-- below the middle: not above. -/
theorem rhe_le_of {n g k : Nat} (h : 2 * n < (2 * k + 1) * g) : rhe n g ≤ k := by
  have hd := Nat.div_add_mod n g
  have e : (2 * k + 1) * g = 2 * (g * k) + g := by rw [Nat.add_mul, Nat.one_mul, Nat.mul_assoc, Nat.mul_comm k g]
  rw [e] at h
  have hg : 0 < g := by
    cases g with
    | zero => simp at h
    | succ m => omega
  have ht : n % g < g := Nat.mod_lt _ hg
  by_cases h1 : n / g < k
  · exact Nat.le_trans (rhe_le_succ n g) h1
  · by_cases h2 : n / g = k
    · rw [h2] at hd
      unfold rhe
      rw [h2, if_neg (by omega)]
      omega
    · have h3 : g * (k + 1) ≤ g * (n / g) := Nat.mul_le_mul_left g (by omega)
      rw [Nat.mul_add] at h3
      omega

theorem rhe_ge_of {n g k : Nat} (h : (2 * k + 1) * g < 2 * n) (hg : 0 < g) : k + 1 ≤ rhe n g := by
  have hd := Nat.div_add_mod n g
  have e : (2 * k + 1) * g = 2 * (g * k) + g := by rw [Nat.add_mul, Nat.one_mul, Nat.mul_assoc, Nat.mul_comm k g]
  rw [e] at h
  have ht : n % g < g := Nat.mod_lt _ hg
  by_cases h1 : k + 1 ≤ n / g
  · exact Nat.le_trans h1 (rhe_ge_div n g)
  · by_cases h2 : n / g = k
    · rw [h2] at hd
      unfold rhe
      rw [h2, if_pos (by omega)]
      omega
    · have h3 : g * (n / g + 1) ≤ g * k := Nat.mul_le_mul_left g (by omega)
      rw [Nat.mul_add] at h3
      omega

/-- the model's way to a whole number is 'rhe'. -/
theorem cut_even (neg : Bool) (n drop : Nat) : Toward.even.cut neg n drop = rhe n (2 ^ drop) := by
  unfold Toward.cut
  simp only [Nat.shiftLeft_eq, Nat.one_mul]
  by_cases h : drop ≤ n.log2 + 2
  · rw [Nat.min_eq_left h]
    unfold rhe
    congr 1
    by_cases h1 : 2 ^ drop < 2 * (n % 2 ^ drop)
    · simp [h1]
    · by_cases h2 : 2 ^ drop = 2 * (n % 2 ^ drop) ∧ n / 2 ^ drop % 2 = 1
      · rw [if_pos (Or.inr h2)]
        simp [← h2.1, h2.2]
      · rw [if_neg (by omega)]
        have h3 : ((2 ^ drop == 2 * (n % 2 ^ drop)) && (n / 2 ^ drop % 2 == 1)) = false := by
          rw [Bool.eq_false_iff]
          intro h4
          simp only [Bool.and_eq_true, beq_iff_eq] at h4
          exact h2 h4
        simp [h1, h3]
  · rw [Nat.min_eq_right (by omega)]
    have hn : n < 2 ^ (n.log2 + 1) := Nat.lt_log2_self
    have e : 2 ^ (n.log2 + 2) = 2 * 2 ^ (n.log2 + 1) := by rw [Nat.pow_succ, Nat.mul_comm]
    have hb : 2 ^ (n.log2 + 2) ≤ 2 ^ drop := Nat.pow_le_pow_right (by omega) (by omega)
    have d1 : n / 2 ^ (n.log2 + 2) = 0 := Nat.div_eq_of_lt (by omega)
    have m1 : n % 2 ^ (n.log2 + 2) = n := Nat.mod_eq_of_lt (by omega)
    have d2 : n / 2 ^ drop = 0 := Nat.div_eq_of_lt (by omega)
    have m2 : n % 2 ^ drop = n := Nat.mod_eq_of_lt (by omega)
    unfold rhe
    rw [d1, m1, d2, m2, if_neg (by omega)]
    have h1 : ¬ 2 ^ (n.log2 + 2) < 2 * n := by omega
    simp [h1]

/-- the rung of 'n / 2 ^ d' units of the last place. -/
def rnd (fb n d : Nat) : Nat := (n.log2 - (d + fb)) * 2 ^ fb + rhe n (2 ^ (n.log2 - (d + fb) + d))

theorem rnd_zero (fb d : Nat) : rnd fb 0 d = 0 := by
  unfold rnd
  rw [rhe_zero _ (Nat.two_pow_pos _)]
  simp

theorem log2_shift {n : Nat} (h : n ≠ 0) (c : Nat) : (n * 2 ^ c).log2 = n.log2 + c := by
  have h1 : n * 2 ^ c ≠ 0 := Nat.mul_ne_zero h (Nat.ne_of_gt (Nat.two_pow_pos c))
  have a : n.log2 + c ≤ (n * 2 ^ c).log2 := by
    rw [Nat.le_log2 h1, Nat.pow_add]
    exact Nat.mul_le_mul_right _ (Nat.log2_self_le h)
  have b : (n * 2 ^ c).log2 < n.log2 + 1 + c := by
    rw [Nat.log2_lt h1, Nat.pow_add]
    exact (Nat.mul_lt_mul_right (Nat.two_pow_pos c)).2 Nat.lt_log2_self
  omega

theorem rnd_scale (fb n d c : Nat) : rnd fb (n * 2 ^ c) (d + c) = rnd fb n d := by
  by_cases h : n = 0
  · subst h
    rw [Nat.zero_mul, rnd_zero, rnd_zero]
  · unfold rnd
    rw [log2_shift h]
    have e : n.log2 + c - (d + c + fb) = n.log2 - (d + fb) := by omega
    rw [e, ← Nat.add_assoc, Nat.pow_add, rhe_scale _ _ _ (Nat.two_pow_pos c)]

theorem rnd_mono_same (fb d : Nat) {n m : Nat} (h : n ≤ m) : rnd fb n d ≤ rnd fb m d := by
  by_cases hn : n = 0
  · subst hn
    rw [rnd_zero]
    exact Nat.zero_le _
  · have hm : m ≠ 0 := by omega
    have hl : n.log2 ≤ m.log2 := by
      rw [Nat.le_log2 hm]
      exact Nat.le_trans (Nat.log2_self_le hn) h
    by_cases e : n.log2 - (d + fb) = m.log2 - (d + fb)
    · unfold rnd
      rw [e]
      have := rhe_mono (2 ^ (m.log2 - (d + fb) + d)) h
      omega
    · obtain ⟨L, hL⟩ : ∃ L, L = n.log2 - (d + fb) := ⟨_, rfl⟩
      obtain ⟨M, hM⟩ : ∃ M, M = m.log2 - (d + fb) := ⟨_, rfl⟩
      unfold rnd
      rw [← hL, ← hM]
      have hLM : L + 1 ≤ M := by omega
      have lo : 2 ^ fb ≤ rhe m (2 ^ (M + d)) := by
        refine Nat.le_trans ?_ (rhe_ge_div _ _)
        rw [Nat.le_div_iff_mul_le (Nat.two_pow_pos _), ← Nat.pow_add]
        refine Nat.le_trans ?_ (Nat.log2_self_le hm)
        exact Nat.pow_le_pow_right (by omega) (by omega)
      have hi : rhe n (2 ^ (L + d)) ≤ 2 * 2 ^ fb := by
        have h1 : n ≤ 2 * 2 ^ fb * 2 ^ (L + d) := by
          have h2 : n < 2 ^ (n.log2 + 1) := Nat.lt_log2_self
          have h3 : 2 ^ (n.log2 + 1) ≤ 2 ^ (1 + fb + (L + d)) := Nat.pow_le_pow_right (by omega) (by omega)
          have h5 : 2 ^ (1 + fb + (L + d)) = 2 * 2 ^ fb * 2 ^ (L + d) := by rw [Nat.pow_add, Nat.pow_add, Nat.pow_one]
          omega
        refine Nat.le_trans (rhe_mono _ h1) ?_
        rw [rhe_exact _ _ (Nat.two_pow_pos _)]
        exact Nat.le_refl _
      have h4 : (L + 1) * 2 ^ fb ≤ M * 2 ^ fb := Nat.mul_le_mul_right _ hLM
      rw [Nat.add_mul, Nat.one_mul] at h4
      omega

theorem rnd_mono (fb : Nat) {n d m c : Nat} (h : n * 2 ^ c ≤ m * 2 ^ d) : rnd fb n d ≤ rnd fb m c := by
  rw [← rnd_scale fb n d c, ← rnd_scale fb m c d, Nat.add_comm c d]
  exact rnd_mono_same fb _ h

theorem rnd_cross (fb : Nat) {n d m c : Nat} (h : n * 2 ^ c = m * 2 ^ d) : rnd fb n d = rnd fb m c :=
  Nat.le_antisymm (rnd_mono fb (Nat.le_of_eq h)) (rnd_mono fb (Nat.le_of_eq h.symm))

/-- the significand and the place (counted from the last one) of a rung, and its magnitude in units of the last place. -/
def mg (fb r : Nat) : Nat := if r < 2 ^ fb then r else 2 ^ fb + r % 2 ^ fb
def pl (fb r : Nat) : Nat := r / 2 ^ fb - 1
def val (fb r : Nat) : Nat := mg fb r * 2 ^ pl fb r

theorem pl_low {fb r : Nat} (h : r < 2 ^ fb) : pl fb r = 0 := by
  unfold pl
  rw [Nat.div_eq_of_lt h]

theorem mg_low {fb r : Nat} (h : r < 2 ^ fb) : mg fb r = r := if_pos h

theorem mg_high {fb r : Nat} (h : 2 ^ fb ≤ r) : mg fb r = 2 ^ fb + r % 2 ^ fb := if_neg (by omega)

theorem mg_lt (fb r : Nat) : mg fb r < 2 * 2 ^ fb := by
  unfold mg
  have := Nat.mod_lt r (Nat.two_pow_pos fb)
  split <;> omega

theorem val_low {fb r : Nat} (h : r < 2 ^ fb) : val fb r = r := by
  unfold val
  rw [pl_low h, mg_low h]
  simp

theorem rnd_val (fb r : Nat) : rnd fb (val fb r) 0 = r := by
  by_cases h : r < 2 ^ fb
  · rw [val_low h]
    unfold rnd
    have : r.log2 - (0 + fb) = 0 := by
      by_cases h0 : r = 0
      · subst h0; simp
      · have := (Nat.log2_lt h0).2 h
        omega
    rw [this]
    have := rhe_exact r 1 (by omega)
    simpa using this
  · unfold val
    rw [mg_high (by omega)]
    have hq : 1 ≤ r / 2 ^ fb := by
      rw [Nat.le_div_iff_mul_le (Nat.two_pow_pos fb)]
      omega
    have hm := Nat.mod_lt r (Nat.two_pow_pos fb)
    have hd := Nat.div_add_mod r (2 ^ fb)
    have hpos := Nat.two_pow_pos fb
    have hl : (2 ^ fb + r % 2 ^ fb).log2 = fb := by
      have h0 : 2 ^ fb + r % 2 ^ fb ≠ 0 := by omega
      have a := (Nat.le_log2 h0 (k := fb)).2 (by omega)
      have b := (Nat.log2_lt h0 (k := fb + 1)).2 (by rw [Nat.pow_succ]; omega)
      omega
    unfold rnd
    rw [log2_shift (by omega), hl]
    have e : fb + pl fb r - (0 + fb) = pl fb r := by omega
    rw [e, Nat.add_zero, rhe_exact _ _ (Nat.two_pow_pos _)]
    unfold pl
    obtain ⟨q, hq'⟩ : ∃ q, r / 2 ^ fb = q + 1 := ⟨r / 2 ^ fb - 1, by omega⟩
    rw [hq'] at hd ⊢
    rw [Nat.mul_add, Nat.mul_comm] at hd
    simp only [Nat.add_sub_cancel]
    omega

theorem rnd_exact {fb n d r : Nat} (h : n = val fb r * 2 ^ d) : rnd fb n d = r := by
  rw [rnd_cross fb (m := val fb r) (c := 0) (by simpa using h), rnd_val]

theorem val_lt {fb r s : Nat} (h : r < s) : val fb r < val fb s := by
  apply Nat.lt_of_not_le
  intro hle
  have := rnd_mono_same fb 0 hle
  rw [rnd_val, rnd_val] at this
  omega

theorem val_le {fb r s : Nat} (h : r ≤ s) : val fb r ≤ val fb s := by
  by_cases e : r = s
  · rw [e]; exact Nat.le_refl _
  · exact Nat.le_of_lt (val_lt (by omega))

theorem val_lt_iff {fb r s : Nat} : val fb r < val fb s ↔ r < s :=
  ⟨fun h => Nat.lt_of_not_le fun hle => by have := val_le (fb := fb) hle; omega, val_lt⟩

theorem val_inj {fb r s : Nat} : val fb r = val fb s ↔ r = s :=
  ⟨fun h => by
    rcases Nat.lt_trichotomy r s with a | a | a
    · have := val_lt (fb := fb) a; omega
    · exact a
    · have := val_lt (fb := fb) a; omega, fun h => by rw [h]⟩

theorem rnd_le_of {fb n d r : Nat} (h : n ≤ val fb r * 2 ^ d) : rnd fb n d ≤ r := by
  have := rnd_mono fb (n := n) (d := d) (m := val fb r) (c := 0) (by simpa using h)
  rwa [rnd_val] at this

theorem rnd_ge_of {fb n d r : Nat} (h : val fb r * 2 ^ d ≤ n) : r ≤ rnd fb n d := by
  have := rnd_mono fb (n := val fb r) (d := 0) (m := n) (c := d) (by simpa using h)
  rwa [rnd_val] at this

/-! ## words -/

/-- the sign and the rung of a word. -/
def sg (f : Format) (w : Nat) : Bool := w / f.signWeight % 2 == 1
def rg (f : Format) (w : Nat) : Nat := w % f.signWeight

theorem read_eq (f : Format) (he : 0 < f.exponentBits) (w : Nat) : f.read w =
    if rg f w < f.infRung then .number (sg f w) (mg f.fractionBits (rg f w)) (f.leastPlace + pl f.fractionBits (rg f w))
    else if rg f w = f.infRung then .infinity (sg f w) else .nan (sg f w) (rg f w - f.infRung) := by
  unfold Format.read
  show (if rg f w < f.binade then Datum.number (sg f w) (rg f w) f.leastPlace else if rg f w < f.infRung then _ else _) = _
  have hb : f.binade = 2 ^ f.fractionBits := rfl
  by_cases h : rg f w < f.binade
  · rw [if_pos h]
    by_cases h2 : rg f w < f.infRung
    · rw [if_pos h2, mg_low h, pl_low h]
      simp
    · exfalso
      unfold Format.infRung at h2
      have h3 : 2 ^ 1 ≤ 2 ^ f.exponentBits := Nat.pow_le_pow_right (by omega) he
      have h4 : 1 * f.binade ≤ (2 ^ f.exponentBits - 1) * f.binade := Nat.mul_le_mul_right _ (by omega)
      omega
  · rw [if_neg h]
    by_cases h2 : rg f w < f.infRung
    · rw [if_pos h2, if_pos h2, mg_high (by omega)]
      rfl
    · rw [if_neg h2, if_neg h2]
      rfl

theorem read_fin {f : Format} (he : 0 < f.exponentBits) {w : Nat} (h : rg f w < f.infRung) :
    f.read w = .number (sg f w) (mg f.fractionBits (rg f w)) (f.leastPlace + pl f.fractionBits (rg f w)) := by
  rw [read_eq f he, if_pos h]

theorem read_inf {f : Format} (he : 0 < f.exponentBits) {w : Nat} (h : rg f w = f.infRung) : f.read w = .infinity (sg f w) := by
  rw [read_eq f he, if_neg (by omega), if_pos h]

theorem read_nan {f : Format} (he : 0 < f.exponentBits) {w : Nat} (h : f.infRung < rg f w) : f.read w = .nan (sg f w) (rg f w - f.infRung) := by
  rw [read_eq f he, if_neg (by omega), if_neg (by omega)]

/-- what is written is the rung to the nearest. -/
theorem nearest_eq (f : Format) (neg : Bool) (mag : Nat) (place : Int) : f.nearest neg mag place =
    f.word neg (min (rnd f.fractionBits (mag * 2 ^ (place - f.leastPlace).toNat) (f.leastPlace - place).toNat) f.infRung) := by
  by_cases h0 : mag = 0
  · subst h0
    rw [Nat.zero_mul, rnd_zero, Nat.zero_min]
    unfold Format.nearest
    rw [if_pos rfl]
  · unfold Format.nearest
    rw [if_neg h0]
    dsimp only
    rw [cut_even, Nat.shiftLeft_eq]
    congr 2
    have hb : f.binade = 2 ^ f.fractionBits := rfl
    rw [hb]
    obtain ⟨l, hl⟩ : ∃ l : Nat, l = mag.log2 := ⟨_, rfl⟩
    rw [← hl]
    by_cases hp : f.leastPlace ≤ place
    · obtain ⟨c, hc⟩ : ∃ c : Nat, place = f.leastPlace + c := ⟨(place - f.leastPlace).toNat, by omega⟩
      obtain ⟨L, hL⟩ : ∃ L : Nat, L = l + c - f.fractionBits := ⟨_, rfl⟩
      have e1 : max (place + (l : Int) - (f.fractionBits : Int)) f.leastPlace = f.leastPlace + L := by omega
      rw [e1]
      have e2 : (f.leastPlace + (L : Int) - f.leastPlace).toNat = L := by omega
      have e3 : (place - (f.leastPlace + (L : Int))).toNat = c - L := by omega
      have e4 : (f.leastPlace + (L : Int) - place).toNat = L - c := by omega
      have e5 : (place - f.leastPlace).toNat = c := by omega
      have e6 : (f.leastPlace - place).toNat = 0 := by omega
      rw [e2, e3, e4, e5, e6]
      unfold rnd
      rw [log2_shift h0, ← hl]
      have e7 : l + c - (0 + f.fractionBits) = L := by omega
      rw [e7, Nat.add_zero]
      congr 1
      have a1 : mag * 2 ^ c = mag * 2 ^ (c - L) * 2 ^ (min c L) := by
        rw [Nat.mul_assoc, ← Nat.pow_add]
        congr 2
        omega
      have a2 : 2 ^ L = 2 ^ (L - c) * 2 ^ (min c L) := by
        rw [← Nat.pow_add]
        congr 1
        omega
      rw [a1, a2, rhe_scale _ _ _ (Nat.two_pow_pos _)]
    · obtain ⟨d, hd⟩ : ∃ d : Nat, place = f.leastPlace - d := ⟨(f.leastPlace - place).toNat, by omega⟩
      obtain ⟨L, hL⟩ : ∃ L : Nat, L = l - (d + f.fractionBits) := ⟨_, rfl⟩
      have e1 : max (place + (l : Int) - (f.fractionBits : Int)) f.leastPlace = f.leastPlace + L := by omega
      rw [e1]
      have e2 : (f.leastPlace + (L : Int) - f.leastPlace).toNat = L := by omega
      have e3 : (place - (f.leastPlace + (L : Int))).toNat = 0 := by omega
      have e4 : (f.leastPlace + (L : Int) - place).toNat = L + d := by omega
      have e5 : (place - f.leastPlace).toNat = 0 := by omega
      have e6 : (f.leastPlace - place).toNat = d := by omega
      rw [e2, e3, e4, e5, e6, Nat.pow_zero, Nat.mul_one]
      unfold rnd
      rw [← hl, ← hL]

/-! ## order -/

/-- a word's place on the line: its rung with its sign. -/
def sr (f : Format) (w : Nat) : Int := if sg f w then -(rg f w : Int) else (rg f w : Int)
/-- its value in units of the last place. -/
def sv (f : Format) (w : Nat) : Int := if sg f w then -(val f.fractionBits (rg f w) : Int) else (val f.fractionBits (rg f w) : Int)

theorem val_zero (fb : Nat) : val fb 0 = 0 := by
  rw [val_low (Nat.two_pow_pos fb)]

theorem val_pos {fb r : Nat} (h : 0 < r) : 0 < val fb r := by
  have := val_lt (fb := fb) h
  omega

theorem sv_lt (f : Format) (x y : Nat) : sv f x < sv f y ↔ sr f x < sr f y := by
  unfold sv sr
  have a := @val_lt_iff f.fractionBits (rg f x) (rg f y)
  have b := @val_lt_iff f.fractionBits (rg f y) (rg f x)
  have x1 : 0 < rg f x → 0 < val f.fractionBits (rg f x) := val_pos
  have y1 : 0 < rg f y → 0 < val f.fractionBits (rg f y) := val_pos
  have z := val_zero f.fractionBits
  have x0 : rg f x = 0 → val f.fractionBits (rg f x) = 0 := fun h => by rw [h]; exact z
  have y0 : rg f y = 0 → val f.fractionBits (rg f y) = 0 := fun h => by rw [h]; exact z
  cases sg f x <;> cases sg f y <;> simp only [Bool.false_eq_true, if_false, if_pos] <;> omega

theorem sv_eq (f : Format) (x y : Nat) : sv f x = sv f y ↔ sr f x = sr f y := by
  have a := sv_lt f x y
  have b := sv_lt f y x
  omega

theorem signed_scale (neg : Bool) (m a p : Nat) : signed neg m a * 2 ^ p = if neg then -((m * 2 ^ (a + p) : Nat) : Int) else ((m * 2 ^ (a + p) : Nat) : Int) := by
  unfold signed
  rw [Nat.shiftLeft_eq, Nat.pow_add, ← Nat.mul_assoc]
  cases neg
  · simp
  · simp [Int.neg_mul]

theorem order_fin {f : Format} (he : 0 < f.exponentBits) {x y : Nat} (hx : rg f x < f.infRung) (hy : rg f y < f.infRung) :
    f.order x y = some (compare (sr f x) (sr f y)) := by
  unfold Format.order
  rw [read_fin he hx, read_fin he hy]
  unfold Datum.order
  dsimp only
  obtain ⟨p, hp⟩ : ∃ p, p = pl f.fractionBits (rg f x) := ⟨_, rfl⟩
  obtain ⟨q, hq⟩ : ∃ q, q = pl f.fractionBits (rg f y) := ⟨_, rfl⟩
  rw [← hp, ← hq]
  have e1 : (f.leastPlace + (p : Int) - min (f.leastPlace + (p : Int)) (f.leastPlace + (q : Int))).toNat = p - q := by omega
  have e2 : (f.leastPlace + (q : Int) - min (f.leastPlace + (p : Int)) (f.leastPlace + (q : Int))).toNat = q - p := by omega
  rw [e1, e2]
  have s1 := signed_scale (sg f x) (mg f.fractionBits (rg f x)) (p - q) (min p q)
  have s2 := signed_scale (sg f y) (mg f.fractionBits (rg f y)) (q - p) (min p q)
  have e3 : p - q + min p q = p := by omega
  have e4 : q - p + min p q = q := by omega
  rw [e3] at s1
  rw [e4] at s2
  have v1 : signed (sg f x) (mg f.fractionBits (rg f x)) (p - q) * 2 ^ (min p q) = sv f x := by rw [s1, hp]; rfl
  have v2 : signed (sg f y) (mg f.fractionBits (rg f y)) (q - p) * 2 ^ (min p q) = sv f y := by rw [s2, hq]; rfl
  obtain ⟨A, hA⟩ : ∃ A, A = signed (sg f x) (mg f.fractionBits (rg f x)) (p - q) := ⟨_, rfl⟩
  obtain ⟨B, hB⟩ : ∃ B, B = signed (sg f y) (mg f.fractionBits (rg f y)) (q - p) := ⟨_, rfl⟩
  rw [← hA] at v1
  rw [← hB] at v2
  rw [← hA, ← hB]
  have hpos : (0 : Int) < 2 ^ (min p q) := by exact_mod_cast Nat.two_pow_pos (min p q)
  have l1 : A < B ↔ sr f x < sr f y := by
    rw [← sv_lt, ← v1, ← v2]
    exact ⟨fun h => Int.mul_lt_mul_of_pos_right h hpos, fun h => Int.lt_of_mul_lt_mul_right h (Int.le_of_lt hpos)⟩
  have l2 : A = B ↔ sr f x = sr f y := by
    rw [← sv_eq, ← v1, ← v2]
    exact ⟨fun h => by rw [h], fun h => Int.eq_of_mul_eq_mul_right (by omega) h⟩
  congr 1
  show compareOfLessAndEq A B = compareOfLessAndEq (sr f x) (sr f y)
  unfold compareOfLessAndEq
  simp only [l1, l2]

theorem order_nan_left {f : Format} (he : 0 < f.exponentBits) {x : Nat} (y : Nat) (hx : f.infRung < rg f x) : f.order x y = none := by
  unfold Format.order
  rw [read_nan he hx]
  cases f.read y <;> rfl

theorem order_nan_right {f : Format} (he : 0 < f.exponentBits) (x : Nat) {y : Nat} (hy : f.infRung < rg f y) : f.order x y = none := by
  unfold Format.order
  rw [read_nan he hy]
  cases f.read x <;> rfl

theorem cmp_lt {a b : Int} (h : a < b) : compare a b = .lt := by
  show compareOfLessAndEq a b = _
  unfold compareOfLessAndEq
  rw [if_pos h]

theorem cmp_gt {a b : Int} (h : b < a) : compare a b = .gt := by
  show compareOfLessAndEq a b = _
  unfold compareOfLessAndEq
  rw [if_neg (by omega), if_neg (by omega)]

theorem cmp_eq {a b : Int} (h : a = b) : compare a b = .eq := by
  show compareOfLessAndEq a b = _
  unfold compareOfLessAndEq
  rw [if_neg (by omega), if_pos h]

theorem infRung_pos {f : Format} (he : 0 < f.exponentBits) : 0 < f.infRung := by
  unfold Format.infRung
  have h3 : 2 ^ 1 ≤ 2 ^ f.exponentBits := Nat.pow_le_pow_right (by omega) he
  exact Nat.mul_pos (by omega) (Nat.two_pow_pos _)

/-- words that are no NaN are in the order of their rungs with their signs. -/
theorem order_eq {f : Format} (he : 0 < f.exponentBits) {x y : Nat} (hx : rg f x ≤ f.infRung) (hy : rg f y ≤ f.infRung) :
    f.order x y = some (compare (sr f x) (sr f y)) := by
  have hk := infRung_pos he
  by_cases h1 : rg f x < f.infRung
  · by_cases h2 : rg f y < f.infRung
    · exact order_fin he h1 h2
    · unfold Format.order
      rw [read_fin he h1, read_inf he (by omega)]
      unfold Datum.order
      dsimp only
      congr 1
      unfold sr
      cases sg f y
      · rw [if_neg (by simp), cmp_lt]
        cases sg f x <;> simp <;> omega
      · rw [if_pos rfl, cmp_gt]
        cases sg f x <;> simp <;> omega
  · by_cases h2 : rg f y < f.infRung
    · unfold Format.order
      rw [read_fin he h2, read_inf he (by omega)]
      unfold Datum.order
      dsimp only
      congr 1
      unfold sr
      cases sg f x
      · rw [if_neg (by simp), cmp_gt]
        cases sg f y <;> simp <;> omega
      · rw [if_pos rfl, cmp_lt]
        cases sg f y <;> simp <;> omega
    · unfold Format.order
      rw [read_inf he (by omega), read_inf he (by omega)]
      unfold Datum.order
      dsimp only
      congr 1
      unfold sr
      cases sg f x <;> cases sg f y
      · rw [cmp_eq (by simp; omega)]; rfl
      · rw [cmp_gt (by simp; omega)]; rfl
      · rw [cmp_lt (by simp; omega)]; rfl
      · rw [cmp_eq (by simp; omega)]; rfl

/-! ## arithmetic -/

theorem mul_fin {f : Format} (he : 0 < f.exponentBits) (hl : f.leastPlace ≤ 0) {x y : Nat} (hx : rg f x < f.infRung) (hy : rg f y < f.infRung) :
    f.mul x y = some (f.word (sg f x ^^ sg f y) (min (rnd f.fractionBits (val f.fractionBits (rg f x) * val f.fractionBits (rg f y)) (-f.leastPlace).toNat) f.infRung)) := by
  unfold Format.mul
  rw [read_fin he hx, read_fin he hy]
  unfold Datum.product
  simp only [Option.map_some, Format.write]
  rw [nearest_eq]
  congr 3
  apply rnd_cross
  unfold val
  obtain ⟨p, hp⟩ : ∃ p, p = pl f.fractionBits (rg f x) := ⟨_, rfl⟩
  obtain ⟨q, hq⟩ : ∃ q, q = pl f.fractionBits (rg f y) := ⟨_, rfl⟩
  rw [← hp, ← hq]
  obtain ⟨m, hm⟩ : ∃ m, m = mg f.fractionBits (rg f x) := ⟨_, rfl⟩
  obtain ⟨n, hn⟩ : ∃ n, n = mg f.fractionBits (rg f y) := ⟨_, rfl⟩
  rw [← hm, ← hn]
  obtain ⟨A, hA⟩ : ∃ A, A = (f.leastPlace + (p : Int) + (f.leastPlace + (q : Int)) - f.leastPlace).toNat := ⟨_, rfl⟩
  obtain ⟨D, hD⟩ : ∃ D, D = (f.leastPlace - (f.leastPlace + (p : Int) + (f.leastPlace + (q : Int)))).toNat := ⟨_, rfl⟩
  obtain ⟨Z, hZ⟩ : ∃ Z, Z = (-f.leastPlace).toNat := ⟨_, rfl⟩
  rw [← hA, ← hD, ← hZ]
  have e : A + Z = p + q + D := by omega
  have l : m * n * 2 ^ A * 2 ^ Z = m * n * 2 ^ (A + Z) := by rw [Nat.mul_assoc, ← Nat.pow_add]
  rw [l, e, Nat.pow_add, Nat.pow_add]
  simp only [Nat.mul_assoc, Nat.mul_left_comm]

theorem sum_core {f : Format} (s t : Bool) (m n p q : Nat) :
    (Datum.sum (.number s m (f.leastPlace + (p : Int))) (.number t n (f.leastPlace + (q : Int)))).map f.write =
    some (f.word (if (if s then -((m * 2 ^ p : Nat) : Int) else ((m * 2 ^ p : Nat) : Int)) + (if t then -((n * 2 ^ q : Nat) : Int) else ((n * 2 ^ q : Nat) : Int)) = 0 then s && t
        else decide ((if s then -((m * 2 ^ p : Nat) : Int) else ((m * 2 ^ p : Nat) : Int)) + (if t then -((n * 2 ^ q : Nat) : Int) else ((n * 2 ^ q : Nat) : Int)) < 0))
      (min (rnd f.fractionBits ((if s then -((m * 2 ^ p : Nat) : Int) else ((m * 2 ^ p : Nat) : Int)) + (if t then -((n * 2 ^ q : Nat) : Int) else ((n * 2 ^ q : Nat) : Int))).natAbs 0) f.infRung)) := by
  unfold Datum.sum
  simp only [Option.map_some, Format.write]
  have e1 : (f.leastPlace + (p : Int) - min (f.leastPlace + (p : Int)) (f.leastPlace + (q : Int))).toNat = p - q := by omega
  have e2 : (f.leastPlace + (q : Int) - min (f.leastPlace + (p : Int)) (f.leastPlace + (q : Int))).toNat = q - p := by omega
  rw [e1, e2]
  have s1 := signed_scale s m (p - q) (min p q)
  have s2 := signed_scale t n (q - p) (min p q)
  have e3 : p - q + min p q = p := by omega
  have e4 : q - p + min p q = q := by omega
  rw [e3] at s1
  rw [e4] at s2
  rw [← s1, ← s2]
  obtain ⟨A, hA⟩ : ∃ A, A = signed s m (p - q) := ⟨_, rfl⟩
  obtain ⟨B, hB⟩ : ∃ B, B = signed t n (q - p) := ⟨_, rfl⟩
  rw [← hA, ← hB, ← Int.add_mul]
  have hpos : (0 : Int) < 2 ^ (min p q) := by exact_mod_cast Nat.two_pow_pos (min p q)
  have z : ((A + B) * 2 ^ (min p q) = 0) = (A + B = 0) := by
    apply propext
    constructor
    · intro h
      rcases Int.mul_eq_zero.1 h with h | h
      · exact h
      · omega
    · intro h
      rw [h, Int.zero_mul]
  have l : ((A + B) * 2 ^ (min p q) < 0) = (A + B < 0) := by
    apply propext
    constructor
    · intro h
      apply Int.lt_of_not_ge
      intro h2
      have := Int.mul_nonneg h2 (Int.le_of_lt hpos)
      omega
    · intro h
      exact Int.mul_neg_of_neg_of_pos h hpos
  rw [nearest_eq]
  simp only [z, l]
  congr 3
  have e5 : (min (f.leastPlace + (p : Int)) (f.leastPlace + (q : Int)) - f.leastPlace).toNat = min p q := by omega
  have e6 : (f.leastPlace - min (f.leastPlace + (p : Int)) (f.leastPlace + (q : Int))).toNat = 0 := by omega
  rw [e5, e6, Int.natAbs_mul]
  congr 2

/-- the word of a sum: its sign, and its rung to the nearest. -/
def sumWord (f : Format) (s t : Bool) (u v : Int) : Nat :=
  f.word (if u + v = 0 then s && t else decide (u + v < 0)) (min (rnd f.fractionBits (u + v).natAbs 0) f.infRung)

theorem add_fin {f : Format} (he : 0 < f.exponentBits) {x y : Nat} (hx : rg f x < f.infRung) (hy : rg f y < f.infRung) :
    f.add x y = some (sumWord f (sg f x) (sg f y) (sv f x) (sv f y)) := by
  unfold Format.add
  rw [read_fin he hx, read_fin he hy, sum_core]
  rfl

theorem sub_fin {f : Format} (he : 0 < f.exponentBits) {x y : Nat} (hx : rg f x < f.infRung) (hy : rg f y < f.infRung) :
    f.sub x y = some (sumWord f (sg f x) (!sg f y) (sv f x) (-sv f y)) := by
  unfold Format.sub
  rw [read_fin he hx, read_fin he hy]
  unfold Datum.opposite
  dsimp only
  rw [sum_core]
  have e : (if (!sg f y) then -((mg f.fractionBits (rg f y) * 2 ^ pl f.fractionBits (rg f y) : Nat) : Int) else ((mg f.fractionBits (rg f y) * 2 ^ pl f.fractionBits (rg f y) : Nat) : Int)) = -sv f y := by
    unfold sv val
    cases sg f y <;> simp
  rw [e]
  rfl

theorem mg_ne_zero_of_val {fb r u : Nat} (h : val fb r = 2 ^ u) : ∃ k, mg fb r = 2 ^ k ∧ k + pl fb r = u := by
  unfold val at h
  have hpos := Nat.two_pow_pos u
  have hm : 1 ≤ mg fb r := by
    rcases Nat.eq_zero_or_pos (mg fb r) with h0 | h0
    · rw [h0, Nat.zero_mul] at h
      omega
    · exact h0
  have hle : 2 ^ pl fb r ≤ 2 ^ u := by
    have := Nat.mul_le_mul_right (2 ^ pl fb r) hm
    omega
  have hle2 : pl fb r ≤ u := (Nat.pow_le_pow_iff_right (by omega)).1 hle
  refine ⟨u - pl fb r, ?_, by omega⟩
  apply Nat.eq_of_mul_eq_mul_right (Nat.two_pow_pos (pl fb r))
  rw [h, ← Nat.pow_add]
  congr 1
  omega

/-- a quotient by a power of two. -/
theorem div_pow2 {f : Format} (he : 0 < f.exponentBits) (hl : f.leastPlace ≤ 0) {x y u : Nat} (hx : rg f x < f.infRung) (hy : rg f y < f.infRung) (hv : val f.fractionBits (rg f y) = 2 ^ u) :
    f.div x y = some (f.word (sg f x ^^ sg f y) (min (rnd f.fractionBits (val f.fractionBits (rg f x) * 2 ^ (-f.leastPlace).toNat) u) f.infRung)) := by
  obtain ⟨k, hk, hku⟩ := mg_ne_zero_of_val hv
  unfold Format.div
  rw [read_fin he hx, read_fin he hy]
  unfold Datum.quotient
  dsimp only
  rw [hk, if_neg (Nat.ne_of_gt (Nat.two_pow_pos k)), Nat.log2_two_pow]
  have hm := mg_lt f.fractionBits (rg f x)
  unfold val
  obtain ⟨p, hp⟩ : ∃ p, p = pl f.fractionBits (rg f x) := ⟨_, rfl⟩
  obtain ⟨q, hq⟩ : ∃ q, q = pl f.fractionBits (rg f y) := ⟨_, rfl⟩
  rw [← hp, ← hq]
  rw [← hq] at hku
  obtain ⟨m, hm'⟩ : ∃ m, m = mg f.fractionBits (rg f x) := ⟨_, rfl⟩
  rw [← hm'] at hm ⊢
  have hlog : m.log2 ≤ f.fractionBits := by
    by_cases h0 : m = 0
    · rw [h0]; simp
    · have := (Nat.log2_lt h0 (k := f.fractionBits + 1)).2 (by rw [Nat.pow_succ]; omega)
      omega
  obtain ⟨more, hmore⟩ : ∃ more, more = f.fractionBits + 2 + k - m.log2 := ⟨_, rfl⟩
  rw [← hmore, Nat.shiftLeft_eq]
  have hge : k ≤ more := by omega
  have e1 : m * 2 ^ more = m * 2 ^ (more - k) * 2 ^ k := by
    rw [Nat.mul_assoc, ← Nat.pow_add]
    congr 2
    omega
  rw [e1, Nat.mul_div_cancel _ (Nat.two_pow_pos k), Nat.mul_mod_left]
  simp only [Option.map_some, Format.write, bne_self_eq_false, Bool.toNat_false, Nat.add_zero]
  rw [nearest_eq]
  congr 3
  apply rnd_cross
  obtain ⟨A, hA⟩ : ∃ A, A = (f.leastPlace + (p : Int) - (f.leastPlace + (q : Int)) - (more : Int) - 1 - f.leastPlace).toNat := ⟨_, rfl⟩
  obtain ⟨D, hD⟩ : ∃ D, D = (f.leastPlace - (f.leastPlace + (p : Int) - (f.leastPlace + (q : Int)) - (more : Int) - 1)).toNat := ⟨_, rfl⟩
  obtain ⟨Z, hZ⟩ : ∃ Z, Z = (-f.leastPlace).toNat := ⟨_, rfl⟩
  rw [← hA, ← hD, ← hZ]
  have e : 1 + (more - k) + A + u = p + Z + D := by omega
  have l : 2 * (m * 2 ^ (more - k)) * 2 ^ A * 2 ^ u = m * 2 ^ (1 + (more - k) + A + u) := by
    rw [Nat.pow_add, Nat.pow_add, Nat.pow_add]
    simp only [Nat.pow_one, Nat.mul_assoc, Nat.mul_left_comm]
  have r : m * 2 ^ p * 2 ^ Z * 2 ^ D = m * 2 ^ (p + Z + D) := by
    rw [Nat.pow_add, Nat.pow_add]
    simp only [Nat.mul_assoc]
  rw [l, r, e]

theorem cut_zero (neg : Bool) (n drop : Nat) : Toward.zero.cut neg n drop = n / 2 ^ drop := by
  unfold Toward.cut
  simp only [Nat.shiftLeft_eq, Nat.one_mul, Bool.toNat_false, Nat.add_zero]
  by_cases h : drop ≤ n.log2 + 2
  · rw [Nat.min_eq_left h]
  · rw [Nat.min_eq_right (by omega)]
    have hn : n < 2 ^ (n.log2 + 1) := Nat.lt_log2_self
    have e : 2 ^ (n.log2 + 2) = 2 * 2 ^ (n.log2 + 1) := by rw [Nat.pow_succ, Nat.mul_comm]
    have hb : 2 ^ (n.log2 + 2) ≤ 2 ^ drop := Nat.pow_le_pow_right (by omega) (by omega)
    rw [Nat.div_eq_of_lt (by omega), Nat.div_eq_of_lt (by omega)]

/-- a finite number cut to a whole one, towards zero. -/
theorem toInt_fin {f : Format} (he : 0 < f.exponentBits) (hl : f.leastPlace ≤ 0) {x : Nat} (hx : rg f x < f.infRung) :
    (f.read x).toInt .zero = some (if sg f x then -((val f.fractionBits (rg f x) / 2 ^ (-f.leastPlace).toNat : Nat) : Int) else ((val f.fractionBits (rg f x) / 2 ^ (-f.leastPlace).toNat : Nat) : Int)) := by
  rw [read_fin he hx]
  unfold Datum.toInt Datum.integral
  dsimp only
  rw [cut_zero]
  unfold signed
  rw [Nat.shiftLeft_zero, Nat.shiftLeft_eq]
  have e : mg f.fractionBits (rg f x) * 2 ^ (f.leastPlace + (pl f.fractionBits (rg f x) : Int)).toNat / 2 ^ (-(f.leastPlace + (pl f.fractionBits (rg f x) : Int))).toNat
      = val f.fractionBits (rg f x) / 2 ^ (-f.leastPlace).toNat := by
    unfold val
    obtain ⟨p, hp⟩ : ∃ p, p = pl f.fractionBits (rg f x) := ⟨_, rfl⟩
    obtain ⟨m, hm⟩ : ∃ m, m = mg f.fractionBits (rg f x) := ⟨_, rfl⟩
    obtain ⟨Z, hZ⟩ : ∃ Z, Z = (-f.leastPlace).toNat := ⟨_, rfl⟩
    rw [← hp, ← hm, ← hZ]
    have a : (f.leastPlace + (p : Int)).toNat = p - Z := by omega
    have b : (-(f.leastPlace + (p : Int))).toNat = Z - p := by omega
    rw [a, b]
    have c1 : m * 2 ^ p = m * 2 ^ (p - Z) * 2 ^ (min p Z) := by
      rw [Nat.mul_assoc, ← Nat.pow_add]
      congr 2
      omega
    have c2 : 2 ^ Z = 2 ^ (Z - p) * 2 ^ (min p Z) := by
      rw [← Nat.pow_add]
      congr 1
      omega
    rw [c1, c2, Nat.mul_div_mul_right _ _ (Nat.two_pow_pos _)]
  rw [e]

/-- what has no more digits than a significand is a magnitude of the format (the exponent unbounded above). -/
theorem repr_val (fb m e : Nat) (hm : m < 2 ^ (fb + 1)) : ∃ r, val fb r = m * 2 ^ e := by
  by_cases h0 : m = 0
  · exact ⟨0, by rw [h0, Nat.zero_mul, val_zero]⟩
  · have hj : m.log2 ≤ fb := by
      have := (Nat.log2_lt h0 (k := fb + 1)).2 hm
      omega
    have hlo : 2 ^ m.log2 ≤ m := Nat.log2_self_le h0
    have hhi : m < 2 ^ (m.log2 + 1) := Nat.lt_log2_self
    obtain ⟨j, hj'⟩ : ∃ j, j = m.log2 := ⟨_, rfl⟩
    rw [← hj'] at hj hlo hhi
    have hpos := Nat.two_pow_pos fb
    by_cases he : fb - j ≤ e
    · have a1 : 2 ^ j * 2 ^ (fb - j) = 2 ^ fb := by rw [← Nat.pow_add]; congr 1; omega
      have a2 : 2 ^ (j + 1) * 2 ^ (fb - j) = 2 * 2 ^ fb := by rw [← Nat.pow_add, ← Nat.pow_succ']; congr 1; omega
      have b1 : 2 ^ fb ≤ m * 2 ^ (fb - j) := by rw [← a1]; exact Nat.mul_le_mul_right _ hlo
      have b2 : m * 2 ^ (fb - j) < 2 * 2 ^ fb := by rw [← a2]; exact (Nat.mul_lt_mul_right (Nat.two_pow_pos _)).2 hhi
      obtain ⟨t, ht⟩ : ∃ t, m * 2 ^ (fb - j) = 2 ^ fb + t := ⟨m * 2 ^ (fb - j) - 2 ^ fb, by omega⟩
      have ht2 : t < 2 ^ fb := by omega
      refine ⟨2 ^ fb * (e - (fb - j) + 1) + t, ?_⟩
      have hge : 2 ^ fb ≤ 2 ^ fb * (e - (fb - j) + 1) + t := by
        rw [Nat.mul_add]
        omega
      unfold val
      rw [mg_high hge]
      unfold pl
      rw [Nat.mul_add_mod, Nat.mod_eq_of_lt ht2, Nat.mul_add_div hpos, Nat.div_eq_of_lt ht2, ← ht, Nat.add_zero, Nat.add_sub_cancel, Nat.mul_assoc, ← Nat.pow_add]
      congr 2
      omega
    · refine ⟨m * 2 ^ e, val_low ?_⟩
      have a2 : 2 ^ (j + 1) * 2 ^ e ≤ 2 ^ fb := by rw [← Nat.pow_add]; exact Nat.pow_le_pow_right (by omega) (by omega)
      exact Nat.lt_of_lt_of_le ((Nat.mul_lt_mul_right (Nat.two_pow_pos _)).2 hhi) a2

theorem mg_lt' (fb r : Nat) : mg fb r < 2 ^ (fb + 1) := by
  have := mg_lt fb r
  rw [Nat.pow_succ]
  omega

/-- the magnitude of the rung that opens a binade. -/
theorem val_binade (fb q : Nat) : val fb (2 ^ fb * (q + 1)) = 2 ^ (fb + q) := by
  have hpos := Nat.two_pow_pos fb
  have hge : 2 ^ fb ≤ 2 ^ fb * (q + 1) := by rw [Nat.mul_add]; omega
  unfold val
  rw [mg_high hge]
  unfold pl
  rw [Nat.mul_mod_right, Nat.mul_div_cancel_left _ hpos, Nat.add_zero, Nat.add_sub_cancel, ← Nat.pow_add]

theorem val_binade' {fb k e : Nat} (q : Nat) (hk : k = 2 ^ fb * (q + 1)) (he : e = fb + q) : val fb k = 2 ^ e := by
  rw [hk, he, val_binade]

end Go.Proofs.Ytjmmoimfdalekaa.Num
