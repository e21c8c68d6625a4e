/-
  For every float64 the law answers true: Logb meets its special cases and equals the exponent of the reference, subnormal numbers included.
  No condition: for every input of the parameter types.
-/
import Derived.Test.YtalcfefnkjmdaaaLog
import Derived.OpenShut
namespace Go.Proofs.Ytalcfefnkjmdaaa.fnExactLogbSmall
open Ieee Num Go.RowKit Go.ChangeShapes Go.WideShapes Go.ChangeAt
set_option linter.unusedVariables false

theorem own : ownKnob Try.prog.godebug = none := by kernel_rfl

/-- the law returns true. -/
theorem walk (a0 : Nat) (w0 : a0 < 18446744073709551616) (w : World) :
    Calls Try.prog 11 #[.float .f64 a0] w fun e w' => e = .returned (.bool true) ∧ Grown w w' := by
  have H := Lib.hid w0
  have HI : Hid (9218868437227405312 < 18446744073709551616) := Lib.hid (by decide)
  have HJ : Hid (18442240474082181120 < 18446744073709551616) := Lib.hid (by decide)
  by_cases hn : isN a0 = true
  · have ho := ord_nl a0 hn
    have HN := Lib.hid hn
    have HR := fun w => Lib.hid (nanR_lt 0 0 w)
    have ha : ∀ w, alW a0 (nanR 0 0 w) = true := fun w => alW_nan hn (nanR_isN 0 0 w)
    clear w0 hn
    go_enter Try.func11, Try.ntmps11
    go_wp2_with (first | (go_at_call 19; first | ((with_reducible refine (logb_nan _ H.out HN.out _).mono ?_); rintro e w' ⟨rfl, rfl⟩)) | (go_at_call 22; first | ((with_reducible refine (logs_nan _ HN.out _).mono ?_); rintro e w' ⟨rfl, rfl⟩)) | (go_at_call 21; first | ((with_reducible refine (alike_c _ _ H.out (HR _).out _).mono ?_); rintro e w' ⟨rfl, rfl⟩)))
    go_ret
    exact ⟨rfl, (Grown.refl _).drew⟩
  · have hn : isN a0 = false := by simpa using hn
    have ho := ord_self w0 hn
    have HN := Lib.hid hn
    by_cases hf : absW a0 < 9218868437227405312
    · have HF := Lib.hid hf
      by_cases h0 : absW a0 = 0
      · have HZ := Lib.hid h0
        have ha : alW 18442240474082181120 18442240474082181120 = true := alW_self _
        have ho2 : FloatKind.f64.format.order a0 0 = some .eq := by
          unfold absW at h0
          have : a0 = 0 ∨ a0 = 9223372036854775808 := by omega
          rcases this with h | h
          · rw [h]; exact ord0_pz
          · rw [h]; exact ord0_nz
        clear w0 hn hf h0
        go_enter Try.func11, Try.ntmps11
        go_wp2_with (first | (go_at_call 15; first | ((with_reducible refine (finite_yes _ HF.out _).mono ?_); rintro e w' ⟨rfl, rfl⟩)) | (go_at_call 19; first | ((with_reducible refine (logb_zero _ H.out HZ.out _).mono ?_); rintro e w' ⟨rfl, rfl⟩)) | (go_at_call 22; first | ((with_reducible refine (logs_zero _ H.out HZ.out _).mono ?_); rintro e w' ⟨rfl, rfl⟩)) | (go_at_call 21; first | ((with_reducible refine (alike_c _ _ HJ.out HJ.out _).mono ?_); rintro e w' ⟨rfl, rfl⟩)))
        go_ret
        exact ⟨rfl, Grown.refl _⟩
      · have H0 : Hid (0 < absW a0) := Lib.hid (by omega)
        have ho2 := ne_zero w0 hn H0.out
        have hb := xp_bd H0.out hf
        have hoo := ofInt_self (n := (xp (absW a0) : Int) - 1074) (by omega)
        clear w0 hn hf h0 hb
        go_enter Try.func11, Try.ntmps11
        go_wp2_with (first | (go_at_call 15; first | ((with_reducible refine (finite_yes _ HF.out _).mono ?_); rintro e w' ⟨rfl, rfl⟩)) | (go_at_call 19; first | ((with_reducible refine (logb_fin _ H.out H0.out HF.out _).mono ?_); rintro e w' ⟨rfl, rfl⟩)) | (go_at_call 23; first | ((with_reducible refine (exponent_c _ H.out H0.out HF.out _).mono ?_); rintro e w' ⟨rfl, rfl⟩)))
        go_ret
        exact ⟨rfl, Grown.refl _⟩
    · have HF : Hid (9218868437227405312 ≤ absW a0) := Lib.hid (by omega)
      have HE : Hid (absW a0 = 9218868437227405312) := Lib.hid (by unfold isN at hn; unfold absW at hf ⊢; simp only [decide_eq_false_iff_not] at hn; omega)
      have H0 : Hid (0 < absW a0) := Lib.hid (by omega)
      have ha : alW 9218868437227405312 9218868437227405312 = true := alW_self _
      clear w0 hn hf
      go_enter Try.func11, Try.ntmps11
      go_wp2_with (first | (go_at_call 15; first | ((with_reducible refine (finite_no _ HF.out _).mono ?_); rintro e w' ⟨rfl, rfl⟩)) | (go_at_call 19; first | ((with_reducible refine (logb_inf _ H.out HE.out _).mono ?_); rintro e w' ⟨rfl, rfl⟩)) | (go_at_call 22; first | ((with_reducible refine (logs_inf _ H.out HN.out H0.out _).mono ?_); rintro e w' ⟨rfl, rfl⟩)) | (go_at_call 21; first | ((with_reducible refine (alike_c _ _ HI.out HI.out _).mono ?_); rintro e w' ⟨rfl, rfl⟩)))
      go_ret
      exact ⟨rfl, (Grown.refl _).drew⟩

set_option maxRecDepth 100000 in
theorem lifted (os : Os) (started : os.Started) (H : Type) (enc : TypeId × Value → H) :
    ReturnsInHanded {} Try.checked os 11 .any (Rows.fnExactLogbSmallSpec.pre6 enc Try.prog Try.f11 Rows.fnExactLogbSmallRow.domain false) (Rows.fnExactLogbSmallSpec.post enc Try.prog Try.f11 false true false false) := by
  refine returnsInHanded_of_change (C := Try.checked) own started (by kernel_rfl) Try.func11
    (ChangeSpec.witness6 (enc := enc) (C := Try.checked) false ⟨#[], #[.float .f64 0], []⟩ 8 (by kernel_rfl) (by kernel_rfl) (by kernel_rfl) (by kernel_rfl)) ?_
  intro W base args ds gs before hval0 hW hcnd _
  have hval : ∀ (j : Nat) t v, Try.f11.params[j]? = some t → args[j]? = some v → Value.okWide Try.prog W .any base t v := hval0
  have hW' := hW
  obtain ⟨p, q, hA0, hV, rfl, hfz, hnd⟩ := hW
  have hA : DataW.TrodAll enc Try.prog W 0 (fun _ => true) true Try.f11.params.toList args.toList ds p := hA0
  rw [Try.params11] at hA hval
  obtain ⟨v0, vs0, d0, ds0, p0, q0, hargs, rfl, rfl, h0, r0⟩ := trodAll_cons hA
  obtain ⟨rfl, rfl, rfl⟩ := trodAll_nil r0
  obtain rfl : args = #[v0] := by cases args; simp_all
  obtain ⟨rfl, rfl⟩ := trodVars_none hV
  obtain ⟨a0, rfl, rfl, rfl, w0⟩ := open_float Try.underlying22 (hval 0 22 v0 rfl rfl) h0
  clear hA0 hval0
  simp only [List.append_nil] at hW'
  refine (walk a0 (wf_f64 w0) W).mono fun e W' ⟨he, hg⟩ => ?_
  subst he
  exact ⟨_, rfl, post_of_same (pa := []) (pv := []) hW' (fun _ _ _ => (trodAll_cons_mk (shut_bool Try.underlying4 _) trodAll_mk0)) (fun sp _ => (trodAll_cons_mk (shut_float Try.underlying22 w0) trodAll_mk0)) (fun _ _ => rfl) rfl
    (hg.frame _) hg.2.1 (ok_one (by kernel_rfl) rfl (okWide_bool_mk Try.underlying4 _))⟩

theorem over : Rows.fnExactLogbSmallRow.holds Try.pinned (OpenSpec.ofChange Rows.fnExactLogbSmallSpec) :=
  OpenClaim.holds_of_wide 11 Try.f11 rfl rfl rfl rfl rfl rfl rfl ⟨rfl, rfl, rfl, rfl, rfl⟩ rfl rfl rfl rfl rfl (by kernel_rfl) Try.func11 (by kernel_rfl)
    (of_decide_eq_true (by kernel_rfl)) (by unfold Func.isWrapper; first | (rw [if_pos (by decide +kernel)]; kernel_rfl) | (rw [if_neg (by decide +kernel)]; exact ⟨rfl, rfl⟩))
    (fun os started H enc _ => lifted os started H enc)

/-- the statement. -/
theorem proved : Rows.FnExactLogbSmallSaid :=
  over
#print axioms proved
end Go.Proofs.Ytalcfefnkjmdaaa.fnExactLogbSmall
