/-
  Contracts of the small functions: each leaf of the library and of the reference, for all words.
-/
import Derived.Test.YtginlhkoeabjgaaDbl
import Derived.Test.YtginlhkoeabjgaaRows
import Derived.Outline
import Derived.Lib.Hide
namespace Go.Proofs.Ytginlhkoeabjgaa
open Ieee Num Go.RowKit Go.ChangeShapes Go.WideShapes Go.ChangeAt

theorem bits64 (b : Nat) (w : World) : (callFunc 29 #[.float .f64 b]).run Try.prog w = .ok (.value (.int .u64 b)) w := by
  rw [run_callFunc_extern Try.func29 (e := Extern.MathFloatBits.float64bits) (by kernel_rfl) (by kernel_rfl) (by kernel_rfl) (by kernel_rfl)]; rfl
theorem from64 (n : Int) (w : World) : (callFunc 25 #[.int .u64 n]).run Try.prog w = .ok (.value (.float .f64 n.toNat)) w := by
  rw [run_callFunc_extern Try.func25 (e := Extern.MathFloatBits.float64frombits) (by kernel_rfl) (by kernel_rfl) (by kernel_rfl) (by kernel_rfl)]; rfl
theorem bits32 (b : Nat) (w : World) : (callFunc 26 #[.float .f32 b]).run Try.prog w = .ok (.value (.int .u32 b)) w := by
  rw [run_callFunc_extern Try.func26 (e := Extern.MathFloatBits.float32bits) (by kernel_rfl) (by kernel_rfl) (by kernel_rfl) (by kernel_rfl)]; rfl

theorem wrap64_neg {x : Nat} (h : x < 18446744073709551616) : decide (wrap64 (x : Int) < 0) = sgW x := by
  unfold sgW wrap64
  rw [Bool.eq_iff_iff]
  simp only [decide_eq_true_eq]
  omega

theorem sgW_top {x : Nat} (h : x < 18446744073709551616) : (sgW x == ((x : Int) / 9223372036854775808 == 1)) = true := by
  unfold sgW
  by_cases hx : 9223372036854775808 ≤ x
  · have : (x : Int) / 9223372036854775808 = 1 := by omega
    rw [this]
    simpa using hx
  · have : (x : Int) / 9223372036854775808 = 0 := by omega
    rw [this]
    simpa using hx

theorem bits_low {x : Nat} (h : x < 18446744073709551616) : bits .and .u64 (x : Int) 9223372036854775807 = ((absW x : Nat) : Int) := by
  have h1 := u64_and_nat x 9223372036854775807 h (by decide)
  have h2 : x &&& 9223372036854775807 = absW x := Nat.and_two_pow_sub_one_eq_mod x 63
  rw [h2] at h1
  exact h1
theorem bits_flip {x : Nat} (h : x < 18446744073709551616) : bits .xor .u64 (x : Int) 9223372036854775808 = ((negW x : Nat) : Int) := by
  have h1 := u64_xor_nat x 9223372036854775808 h (by decide)
  have h2 : x ^^^ 9223372036854775808 = negW x := negFloat_eq h
  rw [h2] at h1
  exact h1

theorem signbit_c (x : Nat) (hx : x < 18446744073709551616) (w : World) :
    Calls Try.prog 20 #[.float .f64 x] w fun e w' => e = .returned (.bool (sgW x)) ∧ w = w' := by
  have h1 := bits64
  have H := Lib.hid hx
  clear hx
  go_enter Try.func20, Try.ntmps20
  go_wp2
  go_ret
  exact ⟨ret_bool (wrap64_neg H.out), rfl⟩

theorem abs_c (x : Nat) (hx : x < 18446744073709551616) (w : World) :
    Calls Try.prog 17 #[.float .f64 x] w fun e w' => e = .returned (.float .f64 (absW x)) ∧ w = w' := by
  have h1 := bits64
  have h2 := from64
  have H := Lib.hid hx
  clear hx
  go_enter Try.func17, Try.ntmps17
  go_wp2
  go_ret
  exact ⟨ret_f64 (by rw [bits_abs H.out, Int.toNat_natCast]), rfl⟩
theorem copysign_c (x y : Nat) (hx : x < 18446744073709551616) (hy : y < 18446744073709551616) (w : World) :
    Calls Try.prog 18 #[.float .f64 x, .float .f64 y] w fun e w' => e = .returned (.float .f64 (absW x + (y - absW y))) ∧ w = w' := by
  have h1 := bits64
  have h2 := from64
  have H := Lib.hid hx
  have H2 := Lib.hid hy
  clear hx hy
  go_enter Try.func18, Try.ntmps18
  go_wp2
  go_ret
  exact ⟨ret_f64 (by rw [bits_abs H.out, bits_sign H2.out, bits_join H2.out, Int.toNat_natCast]), rfl⟩
theorem negative_c (x : Nat) (hx : x < 18446744073709551616) (w : World) :
    Calls Try.prog 31 #[.float .f64 x] w fun e w' => e = .returned (.bool (ngW x)) ∧ w = w' := by
  by_cases hn : isN x = true
  · have e : ngW x = false := by unfold ngW; rw [hn]; simp
    rw [e]
    have h1 := ord_nl 0 hn
    clear hx hn e
    go_enter Try.func31, Try.ntmps31
    go_wp2
    go_ret
    exact ⟨rfl, rfl⟩
  · have hn : isN x = false := by simpa using hn
    by_cases hs : 9223372036854775808 ≤ x
    · have e : ngW x = true := by unfold ngW sgW; rw [hn]; simpa using hs
      rw [e]
      by_cases h0 : x = 9223372036854775808
      · subst h0
        have h1 := ord0_nz
        have h2 := fun t w => run_div_ok (P := Try.prog) (x := 4607182418800017408) (y := 9223372036854775808) (r := 18442240474082181120) (by decide +kernel) t w
        have h3 : FloatKind.f64.format.order 18442240474082181120 0 = some .lt := by decide +kernel
        clear hx hn e hs
        go_enter Try.func31, Try.ntmps31
        go_wp2
        go_ret
        exact ⟨rfl, rfl⟩
      · have h1 := ord0_lt hx hn (by omega)
        clear hx hn e hs h0
        go_enter Try.func31, Try.ntmps31
        go_wp2
        go_ret
        exact ⟨rfl, rfl⟩
    · have e : ngW x = false := by unfold ngW sgW; rw [hn]; simpa using hs
      rw [e]
      by_cases h0 : x = 0
      · subst h0
        have h1 := ord0_pz
        have h2 := fun t w => run_div_ok (P := Try.prog) (x := 4607182418800017408) (y := 0) (r := 9218868437227405312) (by decide +kernel) t w
        have h3 : FloatKind.f64.format.order 9218868437227405312 0 = some .gt := by decide +kernel
        clear hx hn e hs
        go_enter Try.func31, Try.ntmps31
        go_wp2
        go_ret
        exact ⟨rfl, rfl⟩
      · have h1 := ord0_gt hn (by omega) (by omega)
        clear hx hn e hs h0
        go_enter Try.func31, Try.ntmps31
        go_wp2
        go_ret
        exact ⟨rfl, rfl⟩
theorem alike_c (a b : Nat) (ha : a < 18446744073709551616) (hb : b < 18446744073709551616) (w : World) :
    Calls Try.prog 21 #[.float .f64 a, .float .f64 b] w fun e w' => e = .returned (.bool (alW a b)) ∧ w = w' := by
  have H := Lib.hid ha
  have H2 := Lib.hid hb
  by_cases hn : isN a = true
  · have h1 := ord_nl a hn
    by_cases hm : isN b = true
    · have h2 := ord_nl b hm
      have e : alW a b = true := alW_nan hn hm
      rw [e]
      clear ha hb e hn hm
      go_enter Try.func21, Try.ntmps21
      go_wp2
      go_ret
      exact ⟨rfl, rfl⟩
    · have hm : isN b = false := by simpa using hm
      have h2 := ord_self hb hm
      have e : alW a b = false := by unfold alW; rw [hn, hm]; rfl
      rw [e]
      clear ha hb e hn hm
      go_enter Try.func21, Try.ntmps21
      go_wp2
      go_ret
      exact ⟨rfl, rfl⟩
  · have hn : isN a = false := by simpa using hn
    have h1 := ord_self ha hn
    by_cases hm : isN b = true
    · have h2 := ord_nr a hm
      have e : alW a b = false := by unfold alW; rw [hn, hm]; rfl
      rw [e]
      clear ha hb e hn hm
      go_enter Try.func21, Try.ntmps21
      go_wp2
      go_ret
      exact ⟨rfl, rfl⟩
    · have hm : isN b = false := by simpa using hm
      by_cases hab : a = b
      · subst hab
        rw [alW_self]
        clear ha hb hn hm H2
        go_enter Try.func21, Try.ntmps21
        go_wp2_with (go_at_call 31; refine (negative_c _ H.out _).mono ?_; rintro e w' ⟨rfl, rfl⟩)
        go_ret
        exact ⟨ret_bool (by simp), rfl⟩
      · have e : alW a b = false := by unfold alW; rw [hn, hm]; simp [hab]
        rw [e]
        by_cases hs : sr64 a = sr64 b
        · have h2 := ord_eq ha hb hn hm hs
          have hg : ngW a = !ngW b := by
            unfold ngW
            rw [hn, hm, sr64_zero ha hb hs hab]
            simp
          have HG := Lib.hid hg
          clear ha hb hn hm e hab hs hg
          go_enter Try.func21, Try.ntmps21
          go_wp2_with (go_at_call 31; refine (negative_c _ (by first | exact H.out | exact H2.out) _).mono ?_; rintro e w' ⟨rfl, rfl⟩)
          go_ret
          exact ⟨ret_bool (by rw [HG.out]; cases ngW b <;> rfl), rfl⟩
        · by_cases hl : sr64 a < sr64 b
          · have h2 := ord_lt ha hb hn hm hl
            clear ha hb hn hm e hab hs hl
            go_enter Try.func21, Try.ntmps21
            go_wp2
            go_ret
            exact ⟨rfl, rfl⟩
          · have h2 := ord_gt ha hb hn hm (by omega)
            clear ha hb hn hm e hab hs hl
            go_enter Try.func21, Try.ntmps21
            go_wp2
            go_ret
            exact ⟨rfl, rfl⟩
theorem isnan_c (x : Nat) (hx : x < 18446744073709551616) (w : World) :
    Calls Try.prog 14 #[.float .f64 x] w fun e w' => e = .returned (.bool (isN x)) ∧ w = w' := by
  by_cases hn : isN x = true
  · have h1 := ord_nl x hn
    rw [hn]
    clear hx hn
    go_enter Try.func14, Try.ntmps14
    go_wp2
    go_ret
    exact ⟨rfl, rfl⟩
  · have hn : isN x = false := by simpa using hn
    have h1 := ord_self hx hn
    rw [hn]
    clear hx hn
    go_enter Try.func14, Try.ntmps14
    go_wp2
    go_ret
    exact ⟨rfl, rfl⟩
theorem gtmax {y : Nat} (hy : y < 18446744073709551616) : (FloatKind.f64.format.order y 9218868437227405311 == some .gt) = decide (y = 9218868437227405312) := by
  by_cases hn : isN y = true
  · rw [ord_nl _ hn]
    unfold isN at hn
    simp only [decide_eq_true_eq] at hn
    have : ¬ y = 9218868437227405312 := by omega
    simp [this]
  · have hn : isN y = false := by simpa using hn
    have hm : isN 9218868437227405311 = false := by decide
    have e : sr64 9218868437227405311 = 9218868437227405311 := by decide
    by_cases h : y = 9218868437227405312
    · rw [ord_gt hy (by decide) hn hm (by rw [e, h]; decide)]
      simp [h]
    · have hle : sr64 y ≤ 9218868437227405311 := by
        unfold isN at hn
        simp only [decide_eq_false_iff_not] at hn
        unfold sr64
        split <;> omega
      by_cases h2 : sr64 y = 9218868437227405311
      · rw [ord_eq hy (by decide) hn hm (by rw [e, h2])]
        simp [h]
      · rw [ord_lt hy (by decide) hn hm (by rw [e]; omega)]
        simp [h]

/-- an infinity, as asked for by a sign -/
def isI (x : Nat) (s : Int) : Bool := decide (x = 9218868437227405312 ∧ 0 ≤ s ∨ x = 18442240474082181120 ∧ s ≤ 0)
theorem isinf_c (x : Nat) (s : Int) (hx : x < 18446744073709551616) (w : World) :
    Calls Try.prog 23 #[.float .f64 x, .int .i64 s] w fun e w' => e = .returned (.bool (isI x s)) ∧ w = w' := by
  have h1 := bits64
  have h2 := from64
  have H := Lib.hid hx
  by_cases hz : s = 0
  · subst hz
    have HB := Lib.hid (bits_abs hx)
    clear hx
    go_enter Try.func23, Try.ntmps23
    go_wp2
    go_ret
    refine ⟨ret_bool ?_, rfl⟩
    rw [HB.out, Int.toNat_natCast, gtmax (absW_lt64 x)]
    have := H.out
    unfold isI absW
    rw [Bool.eq_iff_iff]
    simp only [decide_eq_true_eq]
    omega
  · have hz' : (s == 0) = false := by simpa using hz
    by_cases hs : s < 0
    · have hneg := fun w => run_neg (P := Try.prog) hx w
      have HZ := Lib.hid hz
      clear hx hz
      go_enter Try.func23, Try.ntmps23
      go_wp2
      go_ret
      refine ⟨ret_bool ?_, rfl⟩
      rw [gtmax (negW_lt H.out)]
      have := H.out
      unfold isI negW
      rw [Bool.eq_iff_iff]
      simp only [decide_eq_true_eq]
      split <;> omega
    · have HZ := Lib.hid hz
      clear hx hz
      go_enter Try.func23, Try.ntmps23
      go_wp2
      go_ret
      refine ⟨ret_bool ?_, rfl⟩
      rw [gtmax H.out]
      have := H.out
      have := HZ.out
      unfold isI
      rw [Bool.eq_iff_iff]
      simp only [decide_eq_true_eq]
      omega
theorem infinite_c (n : Bool) (w : World) :
    Calls Try.prog 22 #[.bool n] w fun e w' => e = .returned (.float .f64 (if n then 18442240474082181120 else 9218868437227405312)) ∧ w = w' := by
  cases n
  · have h1 := fun t w => run_div_ok (P := Try.prog) (x := 4607182418800017408) (y := 0) (r := 9218868437227405312) (by decide +kernel) t w
    go_enter Try.func22, Try.ntmps22
    go_wp2
    go_ret
    exact ⟨rfl, rfl⟩
  · have h1 := fun t w => run_div_ok (P := Try.prog) (x := 13830554455654793216) (y := 0) (r := 18442240474082181120) (by decide +kernel) t w
    go_enter Try.func22, Try.ntmps22
    go_wp2
    go_ret
    exact ⟨rfl, rfl⟩
theorem sub_self_fin {x : Nat} (h : x % 9223372036854775808 < 9218868437227405312) : Ieee.double.sub x x = some 0 := by
  have hf : rg Ieee.double x < Ieee.double.infRung := by rw [rg64, dbl_inf]; exact h
  rw [sub_fin dbl_e hf hf]
  congr 1
  unfold sumWord
  rw [Int.add_right_neg, if_pos rfl]
  have e : (sg Ieee.double x && !sg Ieee.double x) = false := by cases sg Ieee.double x <;> rfl
  rw [e, Int.natAbs_zero, rnd_zero, Nat.zero_min]
  rfl
theorem sub_self_not {x : Nat} (h : 9218868437227405312 ≤ x % 9223372036854775808) : Ieee.double.sub x x = none := by
  unfold Format.sub
  rw [read_eq _ dbl_e, rg64, dbl_inf, if_neg (by omega)]
  split
  · simp [Datum.opposite, Datum.sum]
  · rfl
theorem from64_c (n : Int) (w : World) :
    Calls Try.prog 15 #[.int .u64 n] w fun e w' => e = .returned (.float .f64 n.toNat) ∧ w = w' := by
  have h2 := from64
  go_enter Try.func15, Try.ntmps15
  go_wp2
  go_ret
  exact ⟨rfl, rfl⟩
end Go.Proofs.Ytginlhkoeabjgaa
