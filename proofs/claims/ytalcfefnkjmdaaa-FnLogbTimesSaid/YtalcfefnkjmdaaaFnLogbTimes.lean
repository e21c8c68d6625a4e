/-
  For all pairs of float64 the law answers true: among normal numbers the exponent of a product exceeds the sum of exponents by zero or one.
  No condition: for every input of the parameter types.
-/
import Derived.Test.YtalcfefnkjmdaaaLog2
import Derived.OpenShut
namespace Go.Proofs.Ytalcfefnkjmdaaa.fnLogbTimes
open Ieee Num Go.RowKit Go.ChangeShapes Go.WideShapes Go.ChangeAt
set_option linter.unusedVariables false

theorem own : ownKnob Try.prog.godebug = none := by kernel_rfl

/-- the law returns true. -/
theorem walk (a0 : Nat) (w0 : a0 < 18446744073709551616) (a1 : Nat) (w1 : a1 < 18446744073709551616) (w : World) :
    Calls Try.prog 8 #[.float .f64 a0, .float .f64 a1] w fun e w' => e = .returned (.bool true) ∧ Grown w w' := by
  have H := Lib.hid w0
  have H2 := Lib.hid w1
  by_cases hn : isN a0 = true
  · have ho := ord_nl a0 hn
    cases hm : Ieee.double.mul a0 a1 with
    | none =>
      have hmul := fun t w => run_mul_nan (P := Try.prog) hm t w
      clear w0 w1 hm hn
      go_enter Try.func8, Try.ntmps8
      go_wp2_with (first | (go_at_call 18; first | ((with_reducible refine (ilogb_8 _).mono ?_); rintro e w' ⟨rfl, rfl⟩)) | (go_at_call 17; first | ((with_reducible refine (power_low _).mono ?_); rintro e w' ⟨rfl, rfl⟩)))
      go_ret
      exact ⟨rfl, (Grown.refl _).drew⟩
    | some z =>
      have hmul := fun t w => run_mul_ok (P := Try.prog) hm t w
      clear w0 w1 hm hn
      go_enter Try.func8, Try.ntmps8
      go_wp2_with (first | (go_at_call 18; first | ((with_reducible refine (ilogb_8 _).mono ?_); rintro e w' ⟨rfl, rfl⟩)) | (go_at_call 17; first | ((with_reducible refine (power_low _).mono ?_); rintro e w' ⟨rfl, rfl⟩)))
      go_ret
      exact ⟨rfl, Grown.refl _⟩
  · have hn : isN a0 = false := by simpa using hn
    have ho := ord_self w0 hn
    by_cases hp : isN a1 = true
    · have ho2 := ord_nl a1 hp
      cases hm : Ieee.double.mul a0 a1 with
      | none =>
        have hmul := fun t w => run_mul_nan (P := Try.prog) hm t w
        clear w0 w1 hm hn hp
        go_enter Try.func8, Try.ntmps8
        go_wp2_with (first | (go_at_call 18; first | ((with_reducible refine (ilogb_8 _).mono ?_); rintro e w' ⟨rfl, rfl⟩)) | (go_at_call 17; first | ((with_reducible refine (power_low _).mono ?_); rintro e w' ⟨rfl, rfl⟩)))
        go_ret
        exact ⟨rfl, (Grown.refl _).drew⟩
      | some z =>
        have hmul := fun t w => run_mul_ok (P := Try.prog) hm t w
        clear w0 w1 hm hn hp
        go_enter Try.func8, Try.ntmps8
        go_wp2_with (first | (go_at_call 18; first | ((with_reducible refine (ilogb_8 _).mono ?_); rintro e w' ⟨rfl, rfl⟩)) | (go_at_call 17; first | ((with_reducible refine (power_low _).mono ?_); rintro e w' ⟨rfl, rfl⟩)))
        go_ret
        exact ⟨rfl, Grown.refl _⟩
    · have hp : isN a1 = false := by simpa using hp
      have ho2 := ord_self w1 hp
      by_cases hf : absW a0 < 9218868437227405312
      · have HF := Lib.hid hf
        by_cases hg : absW a1 < 9218868437227405312
        · have HG := Lib.hid hg
          have hr0 : rg Ieee.double a0 = absW a0 := rg64 a0
          have hr1 : rg Ieee.double a1 = absW a1 := rg64 a1
          have hm := mul_fin dbl_e dbl_lp0 (x := a0) (y := a1) (by rw [hr0, dbl_inf]; exact hf) (by rw [hr1, dbl_inf]; exact hg)
          rw [hr0, hr1, lpN, dbl_fb, dbl_inf] at hm
          obtain ⟨k, hk⟩ : ∃ k, k = min (rnd 52 (val 52 (absW a0) * val 52 (absW a1)) Zp) 9218868437227405312 := ⟨_, rfl⟩
          have hkK : k ≤ 9218868437227405312 := by rw [hk]; exact Nat.min_le_right _ _
          rw [← hk] at hm
          obtain ⟨z, hz⟩ : ∃ z, z = wd (sg Ieee.double a0 ^^ sg Ieee.double a1) k := ⟨_, rfl⟩
          have hm2 : Ieee.double.mul a0 a1 = some z := by rw [hz]; exact hm
          have hmul := fun t w => run_mul_ok (P := Try.prog) hm2 t w
          have hza : absW z = k := by rw [hz]; exact wd_abs hkK
          have hzn : isN z = false := by rw [hz]; exact wd_nan hkK
          have HZ : Hid (z < 18446744073709551616) := Lib.hid (by rw [hz]; exact wd_lt hkK)
          by_cases hkf : k < 9218868437227405312
          · have HK : Hid (absW z < 9218868437227405312) := Lib.hid (by omega)
            have s0 : szW a0 = absW a0 := by unfold szW; rw [hn]; rfl
            have s1 : szW a1 = absW a1 := by unfold szW; rw [hp]; rfl
            have s2 : szW z = absW z := by unfold szW; rw [hzn]; rfl
            by_cases u0 : absW a0 < 4503599627370496
            · have q0 := ord_ltw (a := absW a0) (b := 4503599627370496) (by omega) (by decide) u0
              clear w0 w1 hn hp hf hg hr0 hr1 hm hk hkK hz hm2 hza hzn hkf u0
              go_enter Try.func8, Try.ntmps8
              go_wp2_with (first | (go_at_call 18; first | ((with_reducible refine (ilogb_8 _).mono ?_); rintro e w' ⟨rfl, rfl⟩)) | (go_at_call 17; first | ((with_reducible refine (power_low _).mono ?_); rintro e w' ⟨rfl, rfl⟩)) | (go_at_call 15; first | ((with_reducible refine (finite_yes _ HF.out _).mono ?_); rintro e w' ⟨rfl, rfl⟩) | ((with_reducible refine (finite_yes _ HG.out _).mono ?_); rintro e w' ⟨rfl, rfl⟩) | ((with_reducible refine (finite_yes _ HK.out _).mono ?_); rintro e w' ⟨rfl, rfl⟩)) | (go_at_call 16; first | ((with_reducible refine (size_c _ H.out _).mono ?_); rintro e w' ⟨rfl, rfl⟩)))
              go_ret
              exact ⟨rfl, Grown.refl _⟩
            · have q0 := usual_not u0 hf
              by_cases u1 : absW a1 < 4503599627370496
              · have q1 := ord_ltw (a := absW a1) (b := 4503599627370496) (by omega) (by decide) u1
                clear w0 w1 hn hp hf hg hr0 hr1 hm hk hkK hz hm2 hza hzn hkf u0 u1
                go_enter Try.func8, Try.ntmps8
                go_wp2_with (first | (go_at_call 18; first | ((with_reducible refine (ilogb_8 _).mono ?_); rintro e w' ⟨rfl, rfl⟩)) | (go_at_call 17; first | ((with_reducible refine (power_low _).mono ?_); rintro e w' ⟨rfl, rfl⟩)) | (go_at_call 15; first | ((with_reducible refine (finite_yes _ HF.out _).mono ?_); rintro e w' ⟨rfl, rfl⟩) | ((with_reducible refine (finite_yes _ HG.out _).mono ?_); rintro e w' ⟨rfl, rfl⟩) | ((with_reducible refine (finite_yes _ HK.out _).mono ?_); rintro e w' ⟨rfl, rfl⟩)) | (go_at_call 16; first | ((with_reducible refine (size_c _ H.out _).mono ?_); rintro e w' ⟨rfl, rfl⟩) | ((with_reducible refine (size_c _ H2.out _).mono ?_); rintro e w' ⟨rfl, rfl⟩)))
                go_ret
                exact ⟨rfl, Grown.refl _⟩
              · have q1 := usual_not u1 hg
                by_cases u2 : absW z < 4503599627370496
                · have q2 := ord_ltw (a := absW z) (b := 4503599627370496) (by omega) (by decide) u2
                  clear w0 w1 hn hp hf hg hr0 hr1 hm hk hkK hz hm2 hza hzn hkf u0 u1 u2
                  go_enter Try.func8, Try.ntmps8
                  go_wp2_with (first | (go_at_call 18; first | ((with_reducible refine (ilogb_8 _).mono ?_); rintro e w' ⟨rfl, rfl⟩)) | (go_at_call 17; first | ((with_reducible refine (power_low _).mono ?_); rintro e w' ⟨rfl, rfl⟩)) | (go_at_call 15; first | ((with_reducible refine (finite_yes _ HF.out _).mono ?_); rintro e w' ⟨rfl, rfl⟩) | ((with_reducible refine (finite_yes _ HG.out _).mono ?_); rintro e w' ⟨rfl, rfl⟩) | ((with_reducible refine (finite_yes _ HK.out _).mono ?_); rintro e w' ⟨rfl, rfl⟩)) | (go_at_call 16; first | ((with_reducible refine (size_c _ H.out _).mono ?_); rintro e w' ⟨rfl, rfl⟩) | ((with_reducible refine (size_c _ H2.out _).mono ?_); rintro e w' ⟨rfl, rfl⟩) | ((with_reducible refine (size_c _ HZ.out _).mono ?_); rintro e w' ⟨rfl, rfl⟩)))
                  go_ret
                  exact ⟨rfl, Grown.refl _⟩
                · have q2 := usual_not u2 HK.out
                  have P0 : Hid (0 < absW a0) := Lib.hid (by omega)
                  have P1 : Hid (0 < absW a1) := Lib.hid (by omega)
                  have P2 : Hid (0 < absW z) := Lib.hid (by omega)
                  have hxx := prod_xp (r := absW a0) (t := absW a1) (k := absW z) (by omega) (by omega) (by omega) (by omega) (by rw [hza]; omega)
                  have b0 := xp_bd P0.out hf
                  have b1 := xp_bd P1.out hg
                  have b2 := xp_bd P2.out HK.out
                  obtain ⟨n0, hn0⟩ : ∃ n : Int, (xp (absW a0) : Int) - 1074 = n := ⟨_, rfl⟩
                  obtain ⟨n1, hn1⟩ : ∃ n : Int, (xp (absW a1) : Int) - 1074 = n := ⟨_, rfl⟩
                  obtain ⟨n2, hn2⟩ : ∃ n : Int, (xp (absW z) : Int) - 1074 = n := ⟨_, rfl⟩
                  have w01 : IntKind.i64.wrap (n2 - n0) = n2 - n0 := IntWalk.i64_in _ (by omega)
                  have w02 : IntKind.i64.wrap (n2 - n0 - n1) = n2 - n0 - n1 := IntWalk.i64_in _ (by omega)
                  have c1 := ilogb_fin a0 H.out P0.out HF.out
                  have c2 := ilogb_fin a1 H2.out P1.out HG.out
                  have c3 := ilogb_fin z HZ.out P2.out HK.out
                  rw [hn0] at c1
                  rw [hn1] at c2
                  rw [hn2] at c3
                  have C1 := Lib.hid c1
                  have C2 := Lib.hid c2
                  have C3 := Lib.hid c3
                  have hd : (n2 - n0 - n1 == 0) = true ∨ ((n2 - n0 - n1 == 0) = false ∧ (n2 - n0 - n1 == 1) = true) := by
                    rcases hxx with h | h
                    · left; simp only [beq_iff_eq]; omega
                    · right; simp only [beq_iff_eq, beq_eq_false_iff_ne, ne_eq]; omega
                  have bb0 : -1074 ≤ n0 ∧ n0 ≤ 1023 := by omega
                  have bb1 : -1074 ≤ n1 ∧ n1 ≤ 1023 := by omega
                  have bb2 : -1074 ≤ n2 ∧ n2 ≤ 1023 := by omega
                  obtain ⟨b01, b02⟩ := bb0
                  obtain ⟨b11, b12⟩ := bb1
                  obtain ⟨b21, b22⟩ := bb2
                  clear w0 w1 hn hp hf hg hr0 hr1 hm hk hkK hz hm2 hza hzn hkf u0 u1 u2 hxx b0 b1 b2 hn0 hn1 hn2 c1 c2 c3 w01 w02
                  rcases hd with hd | ⟨hd, hd1⟩
                  all_goals
                    go_enter Try.func8, Try.ntmps8
                    go_wp2_with (first | (go_at_call 17; first | ((with_reducible refine (power_low _).mono ?_); rintro e w' ⟨rfl, rfl⟩)) | (go_at_call 15; first | ((with_reducible refine (finite_yes _ HF.out _).mono ?_); rintro e w' ⟨rfl, rfl⟩) | ((with_reducible refine (finite_yes _ HG.out _).mono ?_); rintro e w' ⟨rfl, rfl⟩) | ((with_reducible refine (finite_yes _ HK.out _).mono ?_); rintro e w' ⟨rfl, rfl⟩)) | (go_at_call 16; first | ((with_reducible refine (size_c _ H.out _).mono ?_); rintro e w' ⟨rfl, rfl⟩) | ((with_reducible refine (size_c _ H2.out _).mono ?_); rintro e w' ⟨rfl, rfl⟩) | ((with_reducible refine (size_c _ HZ.out _).mono ?_); rintro e w' ⟨rfl, rfl⟩)) | (go_at_call 18; first | ((with_reducible refine (ilogb_8 _).mono ?_); rintro e w' ⟨rfl, rfl⟩) | ((with_reducible refine (C3.out _).mono ?_); rintro e w' ⟨rfl, rfl⟩) | ((with_reducible refine (C1.out _).mono ?_); rintro e w' ⟨rfl, rfl⟩) | ((with_reducible refine (C2.out _).mono ?_); rintro e w' ⟨rfl, rfl⟩)))
                    go_ret
                    exact ⟨rfl, Grown.refl _⟩
          · have HK : Hid (9218868437227405312 ≤ absW z) := Lib.hid (by omega)
            clear w0 w1 hn hp hf hg hr0 hr1 hm hk hkK hz hm2 hza hzn hkf
            go_enter Try.func8, Try.ntmps8
            go_wp2_with (first | (go_at_call 18; first | ((with_reducible refine (ilogb_8 _).mono ?_); rintro e w' ⟨rfl, rfl⟩)) | (go_at_call 17; first | ((with_reducible refine (power_low _).mono ?_); rintro e w' ⟨rfl, rfl⟩)) | (go_at_call 15; first | ((with_reducible refine (finite_yes _ HF.out _).mono ?_); rintro e w' ⟨rfl, rfl⟩) | ((with_reducible refine (finite_yes _ HG.out _).mono ?_); rintro e w' ⟨rfl, rfl⟩) | ((with_reducible refine (finite_no _ HK.out _).mono ?_); rintro e w' ⟨rfl, rfl⟩)))
            go_ret
            exact ⟨rfl, (Grown.refl _).drew⟩
        · have HG : Hid (9218868437227405312 ≤ absW a1) := Lib.hid (by omega)
          cases hm : Ieee.double.mul a0 a1 with
          | none =>
            have hmul := fun t w => run_mul_nan (P := Try.prog) hm t w
            clear w0 w1 hm hn hp hf hg
            go_enter Try.func8, Try.ntmps8
            go_wp2_with (first | (go_at_call 18; first | ((with_reducible refine (ilogb_8 _).mono ?_); rintro e w' ⟨rfl, rfl⟩)) | (go_at_call 17; first | ((with_reducible refine (power_low _).mono ?_); rintro e w' ⟨rfl, rfl⟩)) | (go_at_call 15; first | ((with_reducible refine (finite_yes _ HF.out _).mono ?_); rintro e w' ⟨rfl, rfl⟩) | ((with_reducible refine (finite_no _ HG.out _).mono ?_); rintro e w' ⟨rfl, rfl⟩)))
            go_ret
            exact ⟨rfl, (Grown.refl _).drew.drew⟩
          | some z =>
            have hmul := fun t w => run_mul_ok (P := Try.prog) hm t w
            clear w0 w1 hm hn hp hf hg
            go_enter Try.func8, Try.ntmps8
            go_wp2_with (first | (go_at_call 18; first | ((with_reducible refine (ilogb_8 _).mono ?_); rintro e w' ⟨rfl, rfl⟩)) | (go_at_call 17; first | ((with_reducible refine (power_low _).mono ?_); rintro e w' ⟨rfl, rfl⟩)) | (go_at_call 15; first | ((with_reducible refine (finite_yes _ HF.out _).mono ?_); rintro e w' ⟨rfl, rfl⟩) | ((with_reducible refine (finite_no _ HG.out _).mono ?_); rintro e w' ⟨rfl, rfl⟩)))
            go_ret
            exact ⟨rfl, (Grown.refl _).drew⟩
      · have HF : Hid (9218868437227405312 ≤ absW a0) := Lib.hid (by omega)
        cases hm : Ieee.double.mul a0 a1 with
        | none =>
          have hmul := fun t w => run_mul_nan (P := Try.prog) hm t w
          clear w0 w1 hm hn hp hf
          go_enter Try.func8, Try.ntmps8
          go_wp2_with (first | (go_at_call 18; first | ((with_reducible refine (ilogb_8 _).mono ?_); rintro e w' ⟨rfl, rfl⟩)) | (go_at_call 17; first | ((with_reducible refine (power_low _).mono ?_); rintro e w' ⟨rfl, rfl⟩)) | (go_at_call 15; first | ((with_reducible refine (finite_no _ HF.out _).mono ?_); rintro e w' ⟨rfl, rfl⟩)))
          go_ret
          exact ⟨rfl, (Grown.refl _).drew.drew⟩
        | some z =>
          have hmul := fun t w => run_mul_ok (P := Try.prog) hm t w
          clear w0 w1 hm hn hp hf
          go_enter Try.func8, Try.ntmps8
          go_wp2_with (first | (go_at_call 18; first | ((with_reducible refine (ilogb_8 _).mono ?_); rintro e w' ⟨rfl, rfl⟩)) | (go_at_call 17; first | ((with_reducible refine (power_low _).mono ?_); rintro e w' ⟨rfl, rfl⟩)) | (go_at_call 15; first | ((with_reducible refine (finite_no _ HF.out _).mono ?_); rintro e w' ⟨rfl, rfl⟩)))
          go_ret
          exact ⟨rfl, (Grown.refl _).drew⟩

set_option maxRecDepth 100000 in
theorem lifted (os : Os) (started : os.Started) (H : Type) (enc : TypeId × Value → H) :
    ReturnsInHanded {} Try.checked os 8 .any (Rows.fnLogbTimesSpec.pre6 enc Try.prog Try.f8 Rows.fnLogbTimesRow.domain false) (Rows.fnLogbTimesSpec.post enc Try.prog Try.f8 false true false false) := by
  refine returnsInHanded_of_change (C := Try.checked) own started (by kernel_rfl) Try.func8
    (ChangeSpec.witness6 (enc := enc) (C := Try.checked) false ⟨#[], #[.float .f64 0, .float .f64 0], []⟩ 8 (by kernel_rfl) (by kernel_rfl) (by kernel_rfl) (by kernel_rfl)) ?_
  intro W base args ds gs before hval0 hW hcnd _
  have hval : ∀ (j : Nat) t v, Try.f8.params[j]? = some t → args[j]? = some v → Value.okWide Try.prog W .any base t v := hval0
  have hW' := hW
  obtain ⟨p, q, hA0, hV, rfl, hfz, hnd⟩ := hW
  have hA : DataW.TrodAll enc Try.prog W 0 (fun _ => true) true Try.f8.params.toList args.toList ds p := hA0
  rw [Try.params8] at hA hval
  obtain ⟨v0, vs0, d0, ds0, p0, q0, hargs, rfl, rfl, h0, r0⟩ := trodAll_cons hA
  obtain ⟨v1, vs1, d1, ds1, p1, q1, rfl, rfl, rfl, h1, r1⟩ := trodAll_cons r0
  obtain ⟨rfl, rfl, rfl⟩ := trodAll_nil r1
  obtain rfl : args = #[v0, v1] := by cases args; simp_all
  obtain ⟨rfl, rfl⟩ := trodVars_none hV
  obtain ⟨a0, rfl, rfl, rfl, w0⟩ := open_float Try.underlying22 (hval 0 22 v0 rfl rfl) h0
  obtain ⟨a1, rfl, rfl, rfl, w1⟩ := open_float Try.underlying22 (hval 1 22 v1 rfl rfl) h1
  clear hA0 hval0
  simp only [List.append_nil] at hW'
  refine (walk a0 (wf_f64 w0) a1 (wf_f64 w1) W).mono fun e W' ⟨he, hg⟩ => ?_
  subst he
  exact ⟨_, rfl, post_of_same (pa := []) (pv := []) hW' (fun _ _ _ => (trodAll_cons_mk (shut_bool Try.underlying4 _) trodAll_mk0)) (fun sp _ => (trodAll_cons_mk (shut_float Try.underlying22 w0) (trodAll_cons_mk (shut_float Try.underlying22 w1) trodAll_mk0))) (fun _ _ => rfl) rfl
    (hg.frame _) hg.2.1 (ok_one (by kernel_rfl) rfl (okWide_bool_mk Try.underlying4 _))⟩

theorem over : Rows.fnLogbTimesRow.holds Try.pinned (OpenSpec.ofChange Rows.fnLogbTimesSpec) :=
  OpenClaim.holds_of_wide 8 Try.f8 rfl rfl rfl rfl rfl rfl rfl ⟨rfl, rfl, rfl, rfl, rfl⟩ rfl rfl rfl rfl rfl (by kernel_rfl) Try.func8 (by kernel_rfl)
    (of_decide_eq_true (by kernel_rfl)) (by unfold Func.isWrapper; first | (rw [if_pos (by decide +kernel)]; kernel_rfl) | (rw [if_neg (by decide +kernel)]; exact ⟨rfl, rfl⟩))
    (fun os started H enc _ => lifted os started H enc)

/-- the statement. -/
theorem proved : Rows.FnLogbTimesSaid :=
  over
#print axioms proved
end Go.Proofs.Ytalcfefnkjmdaaa.fnLogbTimes
