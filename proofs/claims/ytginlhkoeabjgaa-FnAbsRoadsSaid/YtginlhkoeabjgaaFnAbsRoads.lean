/-
  For every float64 the law answers true: Abs and Copysign with 1 give equal results, or both NaN.
  No condition: for every input of the parameter types.
-/
import Derived.Test.YtginlhkoeabjgaaBas
import Derived.OpenShut
namespace Go.Proofs.Ytginlhkoeabjgaa.fnAbsRoads
open Ieee Num Go.RowKit Go.ChangeShapes Go.WideShapes Go.ChangeAt
set_option linter.unusedVariables false

theorem own : ownKnob Try.prog.godebug = none := by kernel_rfl

/-- the law returns true. -/
theorem walk (a0 : Nat) (w0 : a0 < 18446744073709551616) (w : World) :
    Calls Try.prog 6 #[.float .f64 a0] w fun e w' => e = .returned (.bool true) ∧ Grown w w' := by
  have H := Lib.hid w0
  have H1 : Hid (4607182418800017408 < 18446744073709551616) := Lib.hid (by decide)
  have H2 : Hid (4613937818241073152 < 18446744073709551616) := Lib.hid (by decide)
  have H3 : Hid (13830554455654793216 < 18446744073709551616) := Lib.hid (by decide)
  have e1 : absW a0 + (4607182418800017408 - absW 4607182418800017408) = absW a0 := by
    have : absW 4607182418800017408 = 4607182418800017408 := by decide
    omega
  have e2 : absW 4613937818241073152 + (13830554455654793216 - absW 13830554455654793216) = 13837309855095848960 := by decide
  have e3 : FloatKind.f64.format.order 13837309855095848960 13837309855095848960 = some .eq := by decide +kernel
  by_cases hn : isN a0 = true
  · have h1 := ord_nl (absW a0) ((isN_abs a0).trans hn)
    clear w0 hn
    go_enter Try.func6, Try.ntmps6
    go_wp2_with (first | (go_at_call 17; refine (abs_c _ (by first | exact H.out) _).mono ?_; rintro e w' ⟨rfl, rfl⟩) | (go_at_call 18; refine (copysign_c _ _ (by first | exact H.out | exact H2.out) (by first | exact H1.out | exact H3.out) _).mono ?_; rintro e w' ⟨rfl, rfl⟩))
    go_ret
    exact ⟨rfl, Grown.refl _⟩
  · have hn : isN a0 = false := by simpa using hn
    have h1 := ord_self (absW_lt64 a0) ((isN_abs a0).trans hn)
    clear w0 hn
    go_enter Try.func6, Try.ntmps6
    go_wp2_with (first | (go_at_call 17; refine (abs_c _ (by first | exact H.out) _).mono ?_; rintro e w' ⟨rfl, rfl⟩) | (go_at_call 18; refine (copysign_c _ _ (by first | exact H.out | exact H2.out) (by first | exact H1.out | exact H3.out) _).mono ?_; rintro e w' ⟨rfl, rfl⟩))
    go_ret
    exact ⟨rfl, Grown.refl _⟩

set_option maxRecDepth 100000 in
theorem lifted (os : Os) (started : os.Started) (H : Type) (enc : TypeId × Value → H) :
    ReturnsInHanded {} Try.checked os 6 .any (Rows.fnAbsRoadsSpec.pre6 enc Try.prog Try.f6 Rows.fnAbsRoadsRow.domain false) (Rows.fnAbsRoadsSpec.post enc Try.prog Try.f6 false true false false) := by
  refine returnsInHanded_of_change (C := Try.checked) own started (by kernel_rfl) Try.func6
    (ChangeSpec.witness6 (enc := enc) (C := Try.checked) false ⟨#[], #[.float .f64 0], []⟩ 8 (by kernel_rfl) (by kernel_rfl) (by kernel_rfl) (by kernel_rfl)) ?_
  intro W base args ds gs before hval0 hW hcnd _
  have hval : ∀ (j : Nat) t v, Try.f6.params[j]? = some t → args[j]? = some v → Value.okWide Try.prog W .any base t v := hval0
  have hW' := hW
  obtain ⟨p, q, hA0, hV, rfl, hfz, hnd⟩ := hW
  have hA : DataW.TrodAll enc Try.prog W 0 (fun _ => true) true Try.f6.params.toList args.toList ds p := hA0
  rw [Try.params6] at hA hval
  obtain ⟨v0, vs0, d0, ds0, p0, q0, hargs, rfl, rfl, h0, r0⟩ := trodAll_cons hA
  obtain ⟨rfl, rfl, rfl⟩ := trodAll_nil r0
  obtain rfl : args = #[v0] := by cases args; simp_all
  obtain ⟨rfl, rfl⟩ := trodVars_none hV
  obtain ⟨a0, rfl, rfl, rfl, w0⟩ := open_float Try.underlying22 (hval 0 22 v0 rfl rfl) h0
  clear hA0 hval0
  simp only [List.append_nil] at hW'
  refine (walk a0 (wf_f64 w0) W).mono fun e W' ⟨he, hg⟩ => ?_
  subst he
  exact ⟨_, rfl, post_of_same (pa := []) (pv := []) hW' (fun _ _ _ => (trodAll_cons_mk (shut_bool Try.underlying4 _) trodAll_mk0)) (fun sp _ => (trodAll_cons_mk (shut_float Try.underlying22 w0) trodAll_mk0)) (fun _ _ => rfl) rfl
    (hg.frame _) hg.2.1 (ok_one (by kernel_rfl) rfl (okWide_bool_mk Try.underlying4 _))⟩

theorem over : Rows.fnAbsRoadsRow.holds Try.pinned (OpenSpec.ofChange Rows.fnAbsRoadsSpec) :=
  OpenClaim.holds_of_wide 6 Try.f6 rfl rfl rfl rfl rfl rfl rfl ⟨rfl, rfl, rfl, rfl, rfl⟩ rfl rfl rfl rfl rfl (by kernel_rfl) Try.func6 (by kernel_rfl)
    (of_decide_eq_true (by kernel_rfl)) (by unfold Func.isWrapper; first | (rw [if_pos (by decide +kernel)]; kernel_rfl) | (rw [if_neg (by decide +kernel)]; exact ⟨rfl, rfl⟩))
    (fun os started H enc _ => lifted os started H enc)

/-- the statement. -/
theorem proved : Rows.FnAbsRoadsSaid :=
  over
#print axioms proved
end Go.Proofs.Ytginlhkoeabjgaa.fnAbsRoads
