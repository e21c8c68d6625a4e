/-
  For every float64 the law answers true: NaN, infinite and finite are three kinds of which just one holds.
  No condition: for every input of the parameter types.
-/
import Derived.Test.YtginlhkoeabjgaaBas
import Derived.OpenShut
namespace Go.Proofs.Ytginlhkoeabjgaa.fnKinds
open Ieee Num Go.RowKit Go.ChangeShapes Go.WideShapes Go.ChangeAt
set_option linter.unusedVariables false

theorem own : ownKnob Try.prog.godebug = none := by kernel_rfl

/-- the law returns true. -/
theorem walk (a0 : Nat) (w0 : a0 < 18446744073709551616) (w : World) :
    Calls Try.prog 13 #[.float .f64 a0] w fun e w' => e = .returned (.bool true) ∧ Grown w w' := by
  have H := Lib.hid w0
  by_cases hn : isN a0 = true
  · have hk : 9218868437227405312 < a0 % 9223372036854775808 := by unfold isN at hn; simpa using hn
    have hsub := fun t w => run_sub_nan (P := Try.prog) (sub_self_not (x := a0) (by omega)) t w
    have ho : ∀ w, FloatKind.f64.format.order (nanR a0 a0 w) 0 = none := fun w => ord_nl 0 (nanR_isN a0 a0 w)
    have i1 : isI a0 0 = false := by unfold isI; simp only [decide_eq_false_iff_not]; omega
    have i2 : isI a0 1 = false := by unfold isI; simp only [decide_eq_false_iff_not]; omega
    have i3 : isI a0 (-1) = false := by unfold isI; simp only [decide_eq_false_iff_not]; omega
    clear w0 hk
    go_enter Try.func13, Try.ntmps13
    go_wp2_with (first | (go_at_call 14; refine (isnan_c _ (by first | exact H.out) _).mono ?_; rintro e w' ⟨rfl, rfl⟩) | (go_at_call 23; refine (isinf_c _ _ (by first | exact H.out) _).mono ?_; rintro e w' ⟨rfl, rfl⟩))
    go_ret
    exact ⟨rfl, (Grown.refl _).drew⟩
  · have hn : isN a0 = false := by simpa using hn
    have hk : ¬ 9218868437227405312 < a0 % 9223372036854775808 := by unfold isN at hn; simpa using hn
    by_cases hi : a0 % 9223372036854775808 = 9218868437227405312
    · have hsub := fun t w => run_sub_nan (P := Try.prog) (sub_self_not (x := a0) (by omega)) t w
      have ho : ∀ w, FloatKind.f64.format.order (nanR a0 a0 w) 0 = none := fun w => ord_nl 0 (nanR_isN a0 a0 w)
      have i1 : isI a0 0 = true := by unfold isI; simp only [decide_eq_true_eq]; omega
      by_cases hp : a0 = 9218868437227405312
      · have i2 : isI a0 1 = true := by unfold isI; simp only [decide_eq_true_eq]; omega
        have i3 : isI a0 (-1) = false := by unfold isI; simp only [decide_eq_false_iff_not]; omega
        clear w0 hk hi hp
        go_enter Try.func13, Try.ntmps13
        go_wp2_with (first | (go_at_call 14; refine (isnan_c _ (by first | exact H.out) _).mono ?_; rintro e w' ⟨rfl, rfl⟩) | (go_at_call 23; refine (isinf_c _ _ (by first | exact H.out) _).mono ?_; rintro e w' ⟨rfl, rfl⟩))
        go_ret
        exact ⟨rfl, (Grown.refl _).drew⟩
      · have i2 : isI a0 1 = false := by unfold isI; simp only [decide_eq_false_iff_not]; omega
        have i3 : isI a0 (-1) = true := by unfold isI; simp only [decide_eq_true_eq]; omega
        clear w0 hk hi hp
        go_enter Try.func13, Try.ntmps13
        go_wp2_with (first | (go_at_call 14; refine (isnan_c _ (by first | exact H.out) _).mono ?_; rintro e w' ⟨rfl, rfl⟩) | (go_at_call 23; refine (isinf_c _ _ (by first | exact H.out) _).mono ?_; rintro e w' ⟨rfl, rfl⟩))
        go_ret
        exact ⟨rfl, (Grown.refl _).drew⟩
    · have hsub := fun t w => run_sub_ok (P := Try.prog) (sub_self_fin (x := a0) (by omega)) t w
      have ho := ord0_pz
      have i1 : isI a0 0 = false := by unfold isI; simp only [decide_eq_false_iff_not]; omega
      have i2 : isI a0 1 = false := by unfold isI; simp only [decide_eq_false_iff_not]; omega
      have i3 : isI a0 (-1) = false := by unfold isI; simp only [decide_eq_false_iff_not]; omega
      clear w0 hk hi
      go_enter Try.func13, Try.ntmps13
      go_wp2_with (first | (go_at_call 14; refine (isnan_c _ (by first | exact H.out) _).mono ?_; rintro e w' ⟨rfl, rfl⟩) | (go_at_call 23; refine (isinf_c _ _ (by first | exact H.out) _).mono ?_; rintro e w' ⟨rfl, rfl⟩))
      go_ret
      exact ⟨rfl, Grown.refl _⟩

set_option maxRecDepth 100000 in
theorem lifted (os : Os) (started : os.Started) (H : Type) (enc : TypeId × Value → H) :
    ReturnsInHanded {} Try.checked os 13 .any (Rows.fnKindsSpec.pre6 enc Try.prog Try.f13 Rows.fnKindsRow.domain false) (Rows.fnKindsSpec.post enc Try.prog Try.f13 false true false false) := by
  refine returnsInHanded_of_change (C := Try.checked) own started (by kernel_rfl) Try.func13
    (ChangeSpec.witness6 (enc := enc) (C := Try.checked) false ⟨#[], #[.float .f64 0], []⟩ 8 (by kernel_rfl) (by kernel_rfl) (by kernel_rfl) (by kernel_rfl)) ?_
  intro W base args ds gs before hval0 hW hcnd _
  have hval : ∀ (j : Nat) t v, Try.f13.params[j]? = some t → args[j]? = some v → Value.okWide Try.prog W .any base t v := hval0
  have hW' := hW
  obtain ⟨p, q, hA0, hV, rfl, hfz, hnd⟩ := hW
  have hA : DataW.TrodAll enc Try.prog W 0 (fun _ => true) true Try.f13.params.toList args.toList ds p := hA0
  rw [Try.params13] at hA hval
  obtain ⟨v0, vs0, d0, ds0, p0, q0, hargs, rfl, rfl, h0, r0⟩ := trodAll_cons hA
  obtain ⟨rfl, rfl, rfl⟩ := trodAll_nil r0
  obtain rfl : args = #[v0] := by cases args; simp_all
  obtain ⟨rfl, rfl⟩ := trodVars_none hV
  obtain ⟨a0, rfl, rfl, rfl, w0⟩ := open_float Try.underlying22 (hval 0 22 v0 rfl rfl) h0
  clear hA0 hval0
  simp only [List.append_nil] at hW'
  refine (walk a0 (wf_f64 w0) W).mono fun e W' ⟨he, hg⟩ => ?_
  subst he
  exact ⟨_, rfl, post_of_same (pa := []) (pv := []) hW' (fun _ _ _ => (trodAll_cons_mk (shut_bool Try.underlying4 _) trodAll_mk0)) (fun sp _ => (trodAll_cons_mk (shut_float Try.underlying22 w0) trodAll_mk0)) (fun _ _ => rfl) rfl
    (hg.frame _) hg.2.1 (ok_one (by kernel_rfl) rfl (okWide_bool_mk Try.underlying4 _))⟩

theorem over : Rows.fnKindsRow.holds Try.pinned (OpenSpec.ofChange Rows.fnKindsSpec) :=
  OpenClaim.holds_of_wide 13 Try.f13 rfl rfl rfl rfl rfl rfl rfl ⟨rfl, rfl, rfl, rfl, rfl⟩ rfl rfl rfl rfl rfl (by kernel_rfl) Try.func13 (by kernel_rfl)
    (of_decide_eq_true (by kernel_rfl)) (by unfold Func.isWrapper; first | (rw [if_pos (by decide +kernel)]; kernel_rfl) | (rw [if_neg (by decide +kernel)]; exact ⟨rfl, rfl⟩))
    (fun os started H enc _ => lifted os started H enc)

/-- the statement. -/
theorem proved : Rows.FnKindsSaid :=
  over
#print axioms proved
end Go.Proofs.Ytginlhkoeabjgaa.fnKinds
