/-
  For every float32 the law answers true: Float32frombits undoes Float32bits, NaN up to its payload.
  No condition: for every input of the parameter types.
-/
import Derived.Test.YtfjophnfjfphgaaBas
import Derived.Test.YtfjophnfjfphgaaSgl
import Derived.OpenShut
namespace Go.Proofs.Ytfjophnfjfphgaa.fnForth32
open Ieee Num Go.RowKit Go.ChangeShapes Go.WideShapes Go.ChangeAt
set_option linter.unusedVariables false

theorem own : ownKnob Try.prog.godebug = none := by kernel_rfl

/-- the law returns true. -/
theorem walk (a0 : Nat) (w0 : a0 < 4294967296) (w : World) :
    Calls Try.prog 12 #[.float .f32 a0] w fun e w' => e = .returned (.bool true) ∧ Grown w w' := by
  have h1 := bits32
  have h2 := from32
  by_cases hn : isN32 a0 = true
  · have hc := fun w => run_conv_nan (P := Try.prog) hn 22 27 (by rw [Try.underlying22]; rfl) Try.underlying27 w
    have HL := fun w => Lib.hid (nanC_lt a0 w)
    have ha : ∀ w v, alW (nanC a0 w) (nanC a0 v) = true := fun w v => alW_nan (nanC_isN a0 w) (nanC_isN a0 v)
    clear w0 hn
    go_enter Try.func12, Try.ntmps12
    go_wp2_with (first | (go_at_call 17; refine (alike_c _ _ (by first | exact (HL _).out) (by first | exact (HL _).out) _).mono ?_; rintro e w' ⟨rfl, rfl⟩) | (go_at_call 18; go_in) | (go_at_call 15; go_in))
    go_ret
    exact ⟨rfl, (Grown.refl _).drew.drew⟩
  · have hn : isN32 a0 = false := by simpa using hn
    have hc := fun w => run_convert_float_float (P := Try.prog) w 22 27 .f32 .f64 a0 _ (by rw [Try.underlying22]; rfl) Try.underlying27 (wid_bits hn)
    have HL := Lib.hid (wid_lt w0 hn)
    have ha := alW_self (widW a0)
    clear w0 hn
    go_enter Try.func12, Try.ntmps12
    go_wp2_with (first | (go_at_call 17; refine (alike_c _ _ (by first | exact HL.out) (by first | exact HL.out) _).mono ?_; rintro e w' ⟨rfl, rfl⟩) | (go_at_call 18; go_in) | (go_at_call 15; go_in))
    go_ret
    exact ⟨rfl, Grown.refl _⟩

set_option maxRecDepth 100000 in
theorem lifted (os : Os) (started : os.Started) (H : Type) (enc : TypeId × Value → H) :
    ReturnsInHanded {} Try.checked os 12 .any (Rows.fnForth32Spec.pre6 enc Try.prog Try.f12 Rows.fnForth32Row.domain false) (Rows.fnForth32Spec.post enc Try.prog Try.f12 false true false false) := by
  refine returnsInHanded_of_change (C := Try.checked) own started (by kernel_rfl) Try.func12
    (ChangeSpec.witness6 (enc := enc) (C := Try.checked) false ⟨#[], #[.float .f32 0], []⟩ 8 (by kernel_rfl) (by kernel_rfl) (by kernel_rfl) (by kernel_rfl)) ?_
  intro W base args ds gs before hval0 hW hcnd _
  have hval : ∀ (j : Nat) t v, Try.f12.params[j]? = some t → args[j]? = some v → Value.okWide Try.prog W .any base t v := hval0
  have hW' := hW
  obtain ⟨p, q, hA0, hV, rfl, hfz, hnd⟩ := hW
  have hA : DataW.TrodAll enc Try.prog W 0 (fun _ => true) true Try.f12.params.toList args.toList ds p := hA0
  rw [Try.params12] at hA hval
  obtain ⟨v0, vs0, d0, ds0, p0, q0, hargs, rfl, rfl, h0, r0⟩ := trodAll_cons hA
  obtain ⟨rfl, rfl, rfl⟩ := trodAll_nil r0
  obtain rfl : args = #[v0] := by cases args; simp_all
  obtain ⟨rfl, rfl⟩ := trodVars_none hV
  obtain ⟨a0, rfl, rfl, rfl, w0⟩ := open_float Try.underlying22 (hval 0 22 v0 rfl rfl) h0
  clear hA0 hval0
  simp only [List.append_nil] at hW'
  refine (walk a0 (wf_f32 w0) W).mono fun e W' ⟨he, hg⟩ => ?_
  subst he
  exact ⟨_, rfl, post_of_same (pa := []) (pv := []) hW' (fun _ _ _ => (trodAll_cons_mk (shut_bool Try.underlying4 _) trodAll_mk0)) (fun sp _ => (trodAll_cons_mk (shut_float Try.underlying22 w0) trodAll_mk0)) (fun _ _ => rfl) rfl
    (hg.frame _) hg.2.1 (ok_one (by kernel_rfl) rfl (okWide_bool_mk Try.underlying4 _))⟩

theorem over : Rows.fnForth32Row.holds Try.pinned (OpenSpec.ofChange Rows.fnForth32Spec) :=
  OpenClaim.holds_of_wide 12 Try.f12 rfl rfl rfl rfl rfl rfl rfl ⟨rfl, rfl, rfl, rfl, rfl⟩ rfl rfl rfl rfl rfl (by kernel_rfl) Try.func12 (by kernel_rfl)
    (of_decide_eq_true (by kernel_rfl)) (by unfold Func.isWrapper; first | (rw [if_pos (by decide +kernel)]; kernel_rfl) | (rw [if_neg (by decide +kernel)]; exact ⟨rfl, rfl⟩))
    (fun os started H enc _ => lifted os started H enc)

/-- the statement. -/
theorem proved : Rows.FnForth32Said :=
  over
#print axioms proved
end Go.Proofs.Ytfjophnfjfphgaa.fnForth32
