/-
  For every float64 the law answers true: Logb ignores the sign.
  No condition: for every input of the parameter types.
-/
import Derived.Test.YtalcfefnkjmdaaaLog
import Derived.OpenShut
namespace Go.Proofs.Ytalcfefnkjmdaaa.fnLogbSign
open Ieee Num Go.RowKit Go.ChangeShapes Go.WideShapes Go.ChangeAt
set_option linter.unusedVariables false

theorem own : ownKnob Try.prog.godebug = none := by kernel_rfl

/-- the law returns true. -/
theorem walk (a0 : Nat) (w0 : a0 < 18446744073709551616) (w : World) :
    Calls Try.prog 13 #[.float .f64 a0] w fun e w' => e = .returned (.bool true) ∧ Grown w w' := by
  have H := Lib.hid w0
  have H2 := Lib.hid (negW_lt w0)
  have hneg := fun w => run_neg (P := Try.prog) w0 w
  have ha := absW_neg w0
  have hnn := isN_neg w0
  have h3 : FloatKind.f64.format.order 4613937818241073152 4613937818241073152 = some .eq := by decide +kernel
  by_cases hn : isN a0 = true
  · have ho := ord_nl a0 hn
    have ho1 := fun y => ord_nl y hn
    have ho2 := ord_nl (negW a0) (hnn.trans hn)
    have HN := Lib.hid hn
    have HN2 := Lib.hid (hnn.trans hn)
    clear w0 hn ha hnn
    go_enter Try.func13, Try.ntmps13
    go_wp2_with (first | (go_at_call 19; first | ((with_reducible refine (logb_8 _).mono ?_); rintro e w' ⟨rfl, rfl⟩) | ((with_reducible refine (logb_nan _ H.out HN.out _).mono ?_); rintro e w' ⟨rfl, rfl⟩) | ((with_reducible refine (logb_nan _ H2.out HN2.out _).mono ?_); rintro e w' ⟨rfl, rfl⟩)))
    go_ret
    exact ⟨rfl, Grown.refl _⟩
  · have hn : isN a0 = false := by simpa using hn
    by_cases hf : absW a0 < 9218868437227405312
    · by_cases h0 : absW a0 = 0
      · have HZ := Lib.hid h0
        have HZ2 := Lib.hid (ha.trans h0)
        have ho : FloatKind.f64.format.order 18442240474082181120 18442240474082181120 = some .eq := by decide +kernel
        clear w0 hn hf h0 ha hnn
        go_enter Try.func13, Try.ntmps13
        go_wp2_with (first | (go_at_call 19; first | ((with_reducible refine (logb_8 _).mono ?_); rintro e w' ⟨rfl, rfl⟩) | ((with_reducible refine (logb_zero _ H.out HZ.out _).mono ?_); rintro e w' ⟨rfl, rfl⟩) | ((with_reducible refine (logb_zero _ H2.out HZ2.out _).mono ?_); rintro e w' ⟨rfl, rfl⟩)))
        go_ret
        exact ⟨rfl, Grown.refl _⟩
      · have H0 : Hid (0 < absW a0) := Lib.hid (by omega)
        have HF := Lib.hid hf
        have H02 : Hid (0 < absW (negW a0)) := Lib.hid (by omega)
        have HF2 : Hid (absW (negW a0) < 9218868437227405312) := Lib.hid (by omega)
        have hb := xp_bd H0.out hf
        have hoo := ofInt_self (n := (xp (absW a0) : Int) - 1074) (by omega)
        clear w0 hn hf h0 hb hnn
        go_enter Try.func13, Try.ntmps13
        go_wp2_with (first | (go_at_call 19; first | ((with_reducible refine (logb_8 _).mono ?_); rintro e w' ⟨rfl, rfl⟩) | ((with_reducible refine (logb_fin _ H.out H0.out HF.out _).mono ?_); rintro e w' ⟨rfl, rfl⟩) | ((with_reducible refine (logb_fin _ H2.out H02.out HF2.out _).mono ?_); rintro e w' ⟨rfl, rfl⟩)))
        go_ret
        exact ⟨rfl, Grown.refl _⟩
    · have HE : Hid (absW a0 = 9218868437227405312) := Lib.hid (by unfold isN at hn; unfold absW at hf ⊢; simp only [decide_eq_false_iff_not] at hn; omega)
      have HE2 : Hid (absW (negW a0) = 9218868437227405312) := Lib.hid (ha.trans HE.out)
      have ho : FloatKind.f64.format.order 9218868437227405312 9218868437227405312 = some .eq := by decide +kernel
      clear w0 hn hf ha hnn
      go_enter Try.func13, Try.ntmps13
      go_wp2_with (first | (go_at_call 19; first | ((with_reducible refine (logb_8 _).mono ?_); rintro e w' ⟨rfl, rfl⟩) | ((with_reducible refine (logb_inf _ H.out HE.out _).mono ?_); rintro e w' ⟨rfl, rfl⟩) | ((with_reducible refine (logb_inf _ H2.out HE2.out _).mono ?_); rintro e w' ⟨rfl, rfl⟩)))
      go_ret
      exact ⟨rfl, Grown.refl _⟩

set_option maxRecDepth 100000 in
theorem lifted (os : Os) (started : os.Started) (H : Type) (enc : TypeId × Value → H) :
    ReturnsInHanded {} Try.checked os 13 .any (Rows.fnLogbSignSpec.pre6 enc Try.prog Try.f13 Rows.fnLogbSignRow.domain false) (Rows.fnLogbSignSpec.post enc Try.prog Try.f13 false true false false) := by
  refine returnsInHanded_of_change (C := Try.checked) own started (by kernel_rfl) Try.func13
    (ChangeSpec.witness6 (enc := enc) (C := Try.checked) false ⟨#[], #[.float .f64 0], []⟩ 8 (by kernel_rfl) (by kernel_rfl) (by kernel_rfl) (by kernel_rfl)) ?_
  intro W base args ds gs before hval0 hW hcnd _
  have hval : ∀ (j : Nat) t v, Try.f13.params[j]? = some t → args[j]? = some v → Value.okWide Try.prog W .any base t v := hval0
  have hW' := hW
  obtain ⟨p, q, hA0, hV, rfl, hfz, hnd⟩ := hW
  have hA : DataW.TrodAll enc Try.prog W 0 (fun _ => true) true Try.f13.params.toList args.toList ds p := hA0
  rw [Try.params13] at hA hval
  obtain ⟨v0, vs0, d0, ds0, p0, q0, hargs, rfl, rfl, h0, r0⟩ := trodAll_cons hA
  obtain ⟨rfl, rfl, rfl⟩ := trodAll_nil r0
  obtain rfl : args = #[v0] := by cases args; simp_all
  obtain ⟨rfl, rfl⟩ := trodVars_none hV
  obtain ⟨a0, rfl, rfl, rfl, w0⟩ := open_float Try.underlying22 (hval 0 22 v0 rfl rfl) h0
  clear hA0 hval0
  simp only [List.append_nil] at hW'
  refine (walk a0 (wf_f64 w0) W).mono fun e W' ⟨he, hg⟩ => ?_
  subst he
  exact ⟨_, rfl, post_of_same (pa := []) (pv := []) hW' (fun _ _ _ => (trodAll_cons_mk (shut_bool Try.underlying4 _) trodAll_mk0)) (fun sp _ => (trodAll_cons_mk (shut_float Try.underlying22 w0) trodAll_mk0)) (fun _ _ => rfl) rfl
    (hg.frame _) hg.2.1 (ok_one (by kernel_rfl) rfl (okWide_bool_mk Try.underlying4 _))⟩

theorem over : Rows.fnLogbSignRow.holds Try.pinned (OpenSpec.ofChange Rows.fnLogbSignSpec) :=
  OpenClaim.holds_of_wide 13 Try.f13 rfl rfl rfl rfl rfl rfl rfl ⟨rfl, rfl, rfl, rfl, rfl⟩ rfl rfl rfl rfl rfl (by kernel_rfl) Try.func13 (by kernel_rfl)
    (of_decide_eq_true (by kernel_rfl)) (by unfold Func.isWrapper; first | (rw [if_pos (by decide +kernel)]; kernel_rfl) | (rw [if_neg (by decide +kernel)]; exact ⟨rfl, rfl⟩))
    (fun os started H enc _ => lifted os started H enc)

/-- the statement. -/
theorem proved : Rows.FnLogbSignSaid :=
  over
#print axioms proved
end Go.Proofs.Ytalcfefnkjmdaaa.fnLogbSign
