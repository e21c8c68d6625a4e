/-
  For every float64 the law answers true: Float64frombits undoes Float64bits, NaN up to its payload.
  No condition: for every input of the parameter types.
-/
import Derived.Test.YtfjophnfjfphgaaBas
import Derived.OpenShut
namespace Go.Proofs.Ytfjophnfjfphgaa.fnForth64
open Ieee Num Go.RowKit Go.ChangeShapes Go.WideShapes Go.ChangeAt
set_option linter.unusedVariables false

theorem own : ownKnob Try.prog.godebug = none := by kernel_rfl

/-- the law returns true. -/
theorem walk (a0 : Nat) (w0 : a0 < 18446744073709551616) (w : World) :
    Calls Try.prog 13 #[.float .f64 a0] w fun e w' => e = .returned (.bool true) ∧ Grown w w' := by
  have h1 := bits64
  have h2 := from64
  have H := Lib.hid w0
  have ha := alW_self a0
  clear w0
  go_enter Try.func13, Try.ntmps13
  go_wp2_with (first | (go_at_call 17; refine (alike_c _ _ (by first | exact H.out) (by first | exact H.out) _).mono ?_; rintro e w' ⟨rfl, rfl⟩) | (go_at_call 22; go_in) | (go_at_call 20; go_in))
  go_ret
  exact ⟨rfl, Grown.refl _⟩

set_option maxRecDepth 100000 in
theorem lifted (os : Os) (started : os.Started) (H : Type) (enc : TypeId × Value → H) :
    ReturnsInHanded {} Try.checked os 13 .any (Rows.fnForth64Spec.pre6 enc Try.prog Try.f13 Rows.fnForth64Row.domain false) (Rows.fnForth64Spec.post enc Try.prog Try.f13 false true false false) := by
  refine returnsInHanded_of_change (C := Try.checked) own started (by kernel_rfl) Try.func13
    (ChangeSpec.witness6 (enc := enc) (C := Try.checked) false ⟨#[], #[.float .f64 0], []⟩ 8 (by kernel_rfl) (by kernel_rfl) (by kernel_rfl) (by kernel_rfl)) ?_
  intro W base args ds gs before hval0 hW hcnd _
  have hval : ∀ (j : Nat) t v, Try.f13.params[j]? = some t → args[j]? = some v → Value.okWide Try.prog W .any base t v := hval0
  have hW' := hW
  obtain ⟨p, q, hA0, hV, rfl, hfz, hnd⟩ := hW
  have hA : DataW.TrodAll enc Try.prog W 0 (fun _ => true) true Try.f13.params.toList args.toList ds p := hA0
  rw [Try.params13] at hA hval
  obtain ⟨v0, vs0, d0, ds0, p0, q0, hargs, rfl, rfl, h0, r0⟩ := trodAll_cons hA
  obtain ⟨rfl, rfl, rfl⟩ := trodAll_nil r0
  obtain rfl : args = #[v0] := by cases args; simp_all
  obtain ⟨rfl, rfl⟩ := trodVars_none hV
  obtain ⟨a0, rfl, rfl, rfl, w0⟩ := open_float Try.underlying27 (hval 0 27 v0 rfl rfl) h0
  clear hA0 hval0
  simp only [List.append_nil] at hW'
  refine (walk a0 (wf_f64 w0) W).mono fun e W' ⟨he, hg⟩ => ?_
  subst he
  exact ⟨_, rfl, post_of_same (pa := []) (pv := []) hW' (fun _ _ _ => (trodAll_cons_mk (shut_bool Try.underlying4 _) trodAll_mk0)) (fun sp _ => (trodAll_cons_mk (shut_float Try.underlying27 w0) trodAll_mk0)) (fun _ _ => rfl) rfl
    (hg.frame _) hg.2.1 (ok_one (by kernel_rfl) rfl (okWide_bool_mk Try.underlying4 _))⟩

theorem over : Rows.fnForth64Row.holds Try.pinned (OpenSpec.ofChange Rows.fnForth64Spec) :=
  OpenClaim.holds_of_wide 13 Try.f13 rfl rfl rfl rfl rfl rfl rfl ⟨rfl, rfl, rfl, rfl, rfl⟩ rfl rfl rfl rfl rfl (by kernel_rfl) Try.func13 (by kernel_rfl)
    (of_decide_eq_true (by kernel_rfl)) (by unfold Func.isWrapper; first | (rw [if_pos (by decide +kernel)]; kernel_rfl) | (rw [if_neg (by decide +kernel)]; exact ⟨rfl, rfl⟩))
    (fun os started H enc _ => lifted os started H enc)

/-- the statement. -/
theorem proved : Rows.FnForth64Said :=
  over
#print axioms proved
end Go.Proofs.Ytfjophnfjfphgaa.fnForth64
