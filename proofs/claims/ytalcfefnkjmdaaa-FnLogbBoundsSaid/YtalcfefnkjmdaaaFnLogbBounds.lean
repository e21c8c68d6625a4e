/-
  For every float64 the law answers true: a normal number lies in the binade that Logb names.
  No condition: for every input of the parameter types.
-/
import Derived.Test.YtalcfefnkjmdaaaLog2
import Derived.OpenShut
namespace Go.Proofs.Ytalcfefnkjmdaaa.fnLogbBounds
open Ieee Num Go.RowKit Go.ChangeShapes Go.WideShapes Go.ChangeAt
set_option linter.unusedVariables false

theorem own : ownKnob Try.prog.godebug = none := by kernel_rfl

/-- the law returns true. -/
theorem walk (a0 : Nat) (w0 : a0 < 18446744073709551616) (w : World) :
    Calls Try.prog 12 #[.float .f64 a0] w fun e w' => e = .returned (.bool true) ∧ Grown w w' := by
  have H := Lib.hid w0
  have h3 : FloatKind.f64.format.order 4613937818241073152 4613937818241073152 = some .eq := by decide +kernel
  by_cases hn : isN a0 = true
  · have ho := ord_nl a0 hn
    clear w0 hn
    go_enter Try.func12, Try.ntmps12
    go_wp2_with (first | (go_at_call 19; first | ((with_reducible refine (logb_8 _).mono ?_); rintro e w' ⟨rfl, rfl⟩)))
    go_ret
    exact ⟨rfl, Grown.refl _⟩
  · have hn : isN a0 = false := by simpa using hn
    have ho := ord_self w0 hn
    have hz : szW a0 = absW a0 := by unfold szW; rw [hn]; rfl
    by_cases hf : absW a0 < 9218868437227405312
    · have HF := Lib.hid hf
      by_cases hs : absW a0 < 4503599627370496
      · have ho2 := ord_ltw (a := absW a0) (b := 4503599627370496) (by omega) (by decide) hs
        clear w0 hn hf hs
        go_enter Try.func12, Try.ntmps12
        go_wp2_with (first | (go_at_call 19; first | ((with_reducible refine (logb_8 _).mono ?_); rintro e w' ⟨rfl, rfl⟩)) | (go_at_call 15; first | ((with_reducible refine (finite_yes _ HF.out _).mono ?_); rintro e w' ⟨rfl, rfl⟩)) | (go_at_call 16; first | ((with_reducible refine (size_c _ H.out _).mono ?_); rintro e w' ⟨rfl, rfl⟩)) | (go_at_call 17; first | ((with_reducible refine (power_low _).mono ?_); rintro e w' ⟨rfl, rfl⟩)))
        go_ret
        exact ⟨rfl, Grown.refl _⟩
      · have ho2 : (FloatKind.f64.format.order (absW a0) 4503599627370496 == some .lt) = false := by
          by_cases e : absW a0 = 4503599627370496
          · rw [e]; decide +kernel
          · rw [ord_gtw (by omega) (by decide) (by omega)]; rfl
        have H0 : Hid (0 < absW a0) := Lib.hid (by omega)
        have HS : Hid (4503599627370496 ≤ absW a0) := Lib.hid (by omega)
        have hb := xp_bd H0.out hf
        have hxu := xp_usual HS.out
        obtain ⟨n, hnn⟩ : ∃ n : Int, (xp (absW a0) : Int) - 1074 = n := ⟨_, rfl⟩
        have e1 : floatOfInt .f64 (-1022) = 13875572859742453760 := by decide +kernel
        have e2 : floatOfInt .f64 1023 = 4652209618980700160 := by decide +kernel
        have b1 : FloatKind.f64.format.order (floatOfInt .f64 n) 13875572859742453760 = some .gt ∨ FloatKind.f64.format.order (floatOfInt .f64 n) 13875572859742453760 = some .eq := by
          rw [← e1, ord_ofInt (by omega) (by omega)]
          by_cases h : n = -1022
          · right; rw [cmp_eq h]
          · left; rw [cmp_gt (by omega)]
        have b2 : FloatKind.f64.format.order (floatOfInt .f64 n) 4652209618980700160 = some .lt ∨ FloatKind.f64.format.order (floatOfInt .f64 n) 4652209618980700160 = some .eq := by
          rw [← e2, ord_ofInt (by omega) (by omega)]
          by_cases h : n = 1023
          · right; rw [cmp_eq h]
          · left; rw [cmp_lt (by omega)]
        have hcv := fun w => run_convert_float_int (P := Try.prog) w 22 3 .f64 .i64 _ _ (by rw [Try.underlying22]; rfl) Try.underlying3 (ofInt_toInt (n := n) (by omega))
        obtain ⟨d, hd, hdl⟩ := sub_pw HS.out hf
        have hpb := pw_bd hb
        have hsub := fun t w => run_sub_ok (P := Try.prog) hd t w
        have b3 := ord_le (Nat.le_of_lt hpb) (Nat.le_of_lt hf) (pw_xp H0.out)
        have b4 := ord_ltw (a := d) (b := pw (xp (absW a0))) (by omega) (Nat.le_of_lt hpb) hdl
        have HU : Hid (n + 1074 = (xp (absW a0) : Int)) := Lib.hid (by omega)
        have HB := Lib.hid hb
        have HE := Lib.hid hnn
        clear w0 hn hf hs hb hxu hnn e1 e2 hd hdl hpb
        rcases b1 with b1 | b1 <;> rcases b2 with b2 | b2 <;> rcases b3 with b3 | b3
        all_goals
          go_enter Try.func12, Try.ntmps12
          go_wp2_with (first | (go_at_call 15; first | ((with_reducible refine (finite_yes _ HF.out _).mono ?_); rintro e w' ⟨rfl, rfl⟩)) | (go_at_call 16; first | ((with_reducible refine (size_c _ H.out _).mono ?_); rintro e w' ⟨rfl, rfl⟩)) | (go_at_call 17; first | ((with_reducible refine (power_low _).mono ?_); rintro e w' ⟨rfl, rfl⟩)))
          refine (logb_fin _ H.out H0.out HF.out _).mono ?_
          rintro e w' ⟨rfl, rfl⟩
          rw [HE.out]
          go_wp2_with (first | (go_at_call 16; first | ((with_reducible refine (size_c _ H.out _).mono ?_); rintro e w' ⟨rfl, rfl⟩)) | (go_at_call 17; first | ((with_reducible refine (power_u _ _ HU.out HB.out _).mono ?_); rintro e w' ⟨rfl, rfl⟩)))
          go_ret
          exact ⟨rfl, Grown.refl _⟩
    · have HF : Hid (9218868437227405312 ≤ absW a0) := Lib.hid (by omega)
      clear w0 hn hf
      go_enter Try.func12, Try.ntmps12
      go_wp2_with (first | (go_at_call 19; first | ((with_reducible refine (logb_8 _).mono ?_); rintro e w' ⟨rfl, rfl⟩)) | (go_at_call 15; first | ((with_reducible refine (finite_no _ HF.out _).mono ?_); rintro e w' ⟨rfl, rfl⟩)))
      go_ret
      exact ⟨rfl, (Grown.refl _).drew⟩

set_option maxRecDepth 100000 in
theorem lifted (os : Os) (started : os.Started) (H : Type) (enc : TypeId × Value → H) :
    ReturnsInHanded {} Try.checked os 12 .any (Rows.fnLogbBoundsSpec.pre6 enc Try.prog Try.f12 Rows.fnLogbBoundsRow.domain false) (Rows.fnLogbBoundsSpec.post enc Try.prog Try.f12 false true false false) := by
  refine returnsInHanded_of_change (C := Try.checked) own started (by kernel_rfl) Try.func12
    (ChangeSpec.witness6 (enc := enc) (C := Try.checked) false ⟨#[], #[.float .f64 0], []⟩ 8 (by kernel_rfl) (by kernel_rfl) (by kernel_rfl) (by kernel_rfl)) ?_
  intro W base args ds gs before hval0 hW hcnd _
  have hval : ∀ (j : Nat) t v, Try.f12.params[j]? = some t → args[j]? = some v → Value.okWide Try.prog W .any base t v := hval0
  have hW' := hW
  obtain ⟨p, q, hA0, hV, rfl, hfz, hnd⟩ := hW
  have hA : DataW.TrodAll enc Try.prog W 0 (fun _ => true) true Try.f12.params.toList args.toList ds p := hA0
  rw [Try.params12] at hA hval
  obtain ⟨v0, vs0, d0, ds0, p0, q0, hargs, rfl, rfl, h0, r0⟩ := trodAll_cons hA
  obtain ⟨rfl, rfl, rfl⟩ := trodAll_nil r0
  obtain rfl : args = #[v0] := by cases args; simp_all
  obtain ⟨rfl, rfl⟩ := trodVars_none hV
  obtain ⟨a0, rfl, rfl, rfl, w0⟩ := open_float Try.underlying22 (hval 0 22 v0 rfl rfl) h0
  clear hA0 hval0
  simp only [List.append_nil] at hW'
  refine (walk a0 (wf_f64 w0) W).mono fun e W' ⟨he, hg⟩ => ?_
  subst he
  exact ⟨_, rfl, post_of_same (pa := []) (pv := []) hW' (fun _ _ _ => (trodAll_cons_mk (shut_bool Try.underlying4 _) trodAll_mk0)) (fun sp _ => (trodAll_cons_mk (shut_float Try.underlying22 w0) trodAll_mk0)) (fun _ _ => rfl) rfl
    (hg.frame _) hg.2.1 (ok_one (by kernel_rfl) rfl (okWide_bool_mk Try.underlying4 _))⟩

theorem over : Rows.fnLogbBoundsRow.holds Try.pinned (OpenSpec.ofChange Rows.fnLogbBoundsSpec) :=
  OpenClaim.holds_of_wide 12 Try.f12 rfl rfl rfl rfl rfl rfl rfl ⟨rfl, rfl, rfl, rfl, rfl⟩ rfl rfl rfl rfl rfl (by kernel_rfl) Try.func12 (by kernel_rfl)
    (of_decide_eq_true (by kernel_rfl)) (by unfold Func.isWrapper; first | (rw [if_pos (by decide +kernel)]; kernel_rfl) | (rw [if_neg (by decide +kernel)]; exact ⟨rfl, rfl⟩))
    (fun os started H enc _ => lifted os started H enc)

/-- the statement. -/
theorem proved : Rows.FnLogbBoundsSaid :=
  over
#print axioms proved
end Go.Proofs.Ytalcfefnkjmdaaa.fnLogbBounds
