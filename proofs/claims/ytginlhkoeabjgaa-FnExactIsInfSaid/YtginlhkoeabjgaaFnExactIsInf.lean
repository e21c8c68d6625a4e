/-
  For every float64 and every int the law answers true: IsInf is equality with the infinities that the sign selects.
  No condition: for every input of the parameter types.
-/
import Derived.Test.YtginlhkoeabjgaaBas
import Derived.OpenShut
namespace Go.Proofs.Ytginlhkoeabjgaa.fnExactIsInf
open Ieee Num Go.RowKit Go.ChangeShapes Go.WideShapes Go.ChangeAt
set_option linter.unusedVariables false

theorem own : ownKnob Try.prog.godebug = none := by kernel_rfl

/-- the law returns true. -/
theorem walk (a0 : Nat) (w0 : a0 < 18446744073709551616) (a1 : Int) (w1 : -9223372036854775808 ≤ a1 ∧ a1 ≤ 9223372036854775807) (w : World) :
    Calls Try.prog 10 #[.float .f64 a0, .int .i64 a1] w fun e w' => e = .returned (.bool true) ∧ Grown w w' := by
  have H := Lib.hid w0
  by_cases hp : a0 = 9218868437227405312
  · subst hp
    have o1 : FloatKind.f64.format.order 9218868437227405312 9218868437227405312 = some .eq := by decide +kernel
    have o2 : FloatKind.f64.format.order 9218868437227405312 18442240474082181120 = some .gt := by decide +kernel
    by_cases hs : 0 ≤ a1
    · have hi : isI 9218868437227405312 a1 = true := by unfold isI; simp [hs]
      clear w0 w1
      go_enter Try.func10, Try.ntmps10
      go_wp2_with (first | (go_at_call 23; refine (isinf_c _ _ (by first | exact H.out) _).mono ?_; rintro e w' ⟨rfl, rfl⟩) | (go_at_call 22; refine (infinite_c _ _).mono ?_; rintro e w' ⟨rfl, rfl⟩))
      go_ret
      exact ⟨rfl, Grown.refl _⟩
    · have hi : isI 9218868437227405312 a1 = false := by unfold isI; simp [hs]
      have hd : decide (0 ≤ a1) = false := by simpa using hs
      have hs : a1 < 0 := by omega
      clear w0 w1
      go_enter Try.func10, Try.ntmps10
      go_wp2_with (first | (go_at_call 23; refine (isinf_c _ _ (by first | exact H.out) _).mono ?_; rintro e w' ⟨rfl, rfl⟩) | (go_at_call 22; refine (infinite_c _ _).mono ?_; rintro e w' ⟨rfl, rfl⟩))
      go_ret
      exact ⟨rfl, Grown.refl _⟩
  · by_cases hq : a0 = 18442240474082181120
    · subst hq
      have o1 : FloatKind.f64.format.order 18442240474082181120 9218868437227405312 = some .lt := by decide +kernel
      have o2 : FloatKind.f64.format.order 18442240474082181120 18442240474082181120 = some .eq := by decide +kernel
      by_cases hs : a1 ≤ 0
      · have hi : isI 18442240474082181120 a1 = true := by unfold isI; simp [hs]
        clear w0 w1 hp
        go_enter Try.func10, Try.ntmps10
        go_wp2_with (first | (go_at_call 23; refine (isinf_c _ _ (by first | exact H.out) _).mono ?_; rintro e w' ⟨rfl, rfl⟩) | (go_at_call 22; refine (infinite_c _ _).mono ?_; rintro e w' ⟨rfl, rfl⟩))
        go_ret
        exact ⟨rfl, Grown.refl _⟩
      · have hi : isI 18442240474082181120 a1 = false := by unfold isI; simp [hs]
        have hd : decide (a1 ≤ 0) = false := by simpa using hs
        have hs : 0 < a1 := by omega
        clear w0 w1 hp
        go_enter Try.func10, Try.ntmps10
        go_wp2_with (first | (go_at_call 23; refine (isinf_c _ _ (by first | exact H.out) _).mono ?_; rintro e w' ⟨rfl, rfl⟩) | (go_at_call 22; refine (infinite_c _ _).mono ?_; rintro e w' ⟨rfl, rfl⟩))
        go_ret
        exact ⟨rfl, Grown.refl _⟩
    · have o1 : (FloatKind.f64.format.order a0 9218868437227405312 == some .eq) = false := eq_ne w0 (by decide) (by decide) hp
      have o2 : (FloatKind.f64.format.order a0 18442240474082181120 == some .eq) = false := eq_ne w0 (by decide) (by decide) hq
      have hi : isI a0 a1 = false := by unfold isI; simp [hp, hq]
      clear w0 w1 hp hq
      go_enter Try.func10, Try.ntmps10
      go_wp2_with (first | (go_at_call 23; refine (isinf_c _ _ (by first | exact H.out) _).mono ?_; rintro e w' ⟨rfl, rfl⟩) | (go_at_call 22; refine (infinite_c _ _).mono ?_; rintro e w' ⟨rfl, rfl⟩))
      go_ret
      exact ⟨rfl, Grown.refl _⟩

set_option maxRecDepth 100000 in
theorem lifted (os : Os) (started : os.Started) (H : Type) (enc : TypeId × Value → H) :
    ReturnsInHanded {} Try.checked os 10 .any (Rows.fnExactIsInfSpec.pre6 enc Try.prog Try.f10 Rows.fnExactIsInfRow.domain false) (Rows.fnExactIsInfSpec.post enc Try.prog Try.f10 false true false false) := by
  refine returnsInHanded_of_change (C := Try.checked) own started (by kernel_rfl) Try.func10
    (ChangeSpec.witness6 (enc := enc) (C := Try.checked) false ⟨#[], #[.float .f64 0, .int .i64 0], []⟩ 8 (by kernel_rfl) (by kernel_rfl) (by kernel_rfl) (by kernel_rfl)) ?_
  intro W base args ds gs before hval0 hW hcnd _
  have hval : ∀ (j : Nat) t v, Try.f10.params[j]? = some t → args[j]? = some v → Value.okWide Try.prog W .any base t v := hval0
  have hW' := hW
  obtain ⟨p, q, hA0, hV, rfl, hfz, hnd⟩ := hW
  have hA : DataW.TrodAll enc Try.prog W 0 (fun _ => true) true Try.f10.params.toList args.toList ds p := hA0
  rw [Try.params10] at hA hval
  obtain ⟨v0, vs0, d0, ds0, p0, q0, hargs, rfl, rfl, h0, r0⟩ := trodAll_cons hA
  obtain ⟨v1, vs1, d1, ds1, p1, q1, rfl, rfl, rfl, h1, r1⟩ := trodAll_cons r0
  obtain ⟨rfl, rfl, rfl⟩ := trodAll_nil r1
  obtain rfl : args = #[v0, v1] := by cases args; simp_all
  obtain ⟨rfl, rfl⟩ := trodVars_none hV
  obtain ⟨a0, rfl, rfl, rfl, w0⟩ := open_float Try.underlying22 (hval 0 22 v0 rfl rfl) h0
  obtain ⟨a1, rfl, rfl, rfl, w1⟩ := open_int Try.underlying3 (hval 1 3 v1 rfl rfl) h1
  clear hA0 hval0
  simp only [List.append_nil] at hW'
  refine (walk a0 (wf_f64 w0) a1 (wf_i64 w1) W).mono fun e W' ⟨he, hg⟩ => ?_
  subst he
  exact ⟨_, rfl, post_of_same (pa := []) (pv := []) hW' (fun _ _ _ => (trodAll_cons_mk (shut_bool Try.underlying4 _) trodAll_mk0)) (fun sp _ => (trodAll_cons_mk (shut_float Try.underlying22 w0) (trodAll_cons_mk (shut_int Try.underlying3 w1) trodAll_mk0))) (fun _ _ => rfl) rfl
    (hg.frame _) hg.2.1 (ok_one (by kernel_rfl) rfl (okWide_bool_mk Try.underlying4 _))⟩

theorem over : Rows.fnExactIsInfRow.holds Try.pinned (OpenSpec.ofChange Rows.fnExactIsInfSpec) :=
  OpenClaim.holds_of_wide 10 Try.f10 rfl rfl rfl rfl rfl rfl rfl ⟨rfl, rfl, rfl, rfl, rfl⟩ rfl rfl rfl rfl rfl (by kernel_rfl) Try.func10 (by kernel_rfl)
    (of_decide_eq_true (by kernel_rfl)) (by unfold Func.isWrapper; first | (rw [if_pos (by decide +kernel)]; kernel_rfl) | (rw [if_neg (by decide +kernel)]; exact ⟨rfl, rfl⟩))
    (fun os started H enc _ => lifted os started H enc)

/-- the statement. -/
theorem proved : Rows.FnExactIsInfSaid :=
  over
#print axioms proved
end Go.Proofs.Ytginlhkoeabjgaa.fnExactIsInf
