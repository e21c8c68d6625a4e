/-
  For all pairs of float64 the law answers true: Abs commutes with multiplication.
  No condition: for every input of the parameter types.
-/
import Derived.Test.YtjmmoimfdalekaaAbs
import Derived.OpenShut
namespace Go.Proofs.Ytjmmoimfdalekaa.fnAbsTimes
open Ieee Num Go.RowKit Go.ChangeShapes Go.WideShapes Go.ChangeAt
set_option linter.unusedVariables false

theorem own : ownKnob Try.prog.godebug = none := by kernel_rfl

/-- the law returns true. -/
theorem walk (a0 : Nat) (w0 : a0 < 18446744073709551616) (a1 : Nat) (w1 : a1 < 18446744073709551616) (w : World) :
    Calls Try.prog 7 #[.float .f64 a0, .float .f64 a1] w fun e w' => e = .returned (.bool true) ∧ Grown w w' := by
  have H := Lib.hid w0
  have H2 := Lib.hid w1
  have H4 : Hid (13835058055282163712 < 18446744073709551616) := Lib.hid (by decide)
  have e3 : absW 13835058055282163712 = 4611686018427387904 := by decide
  have e4 : FloatKind.f64.format.order 4611686018427387904 4611686018427387904 = some .eq := by decide +kernel
  have hab := mul_abs w0 w1
  cases hm : Ieee.double.mul a0 a1 with
  | none =>
    rw [hm] at hab
    have hmul := fun t w => run_mul_nan (P := Try.prog) hm t w
    have hmul2 := fun t w => run_mul_nan (P := Try.prog) hab t w
    have hord : ∀ w v, FloatKind.f64.format.order (absW (nanR a0 a1 w)) v = none := fun w v => ord_nl _ ((isN_abs _).trans (nanR_isN a0 a1 w))
    have hord2 : ∀ w v, FloatKind.f64.format.order (nanR (absW a0) (absW a1) w) v = none := fun w v => ord_nl _ (nanR_isN _ _ w)
    have H5 := fun w => Lib.hid (nanR_lt a0 a1 w)
    clear w0 w1 hm hab
    go_enter Try.func7, Try.ntmps7
    go_wp2_with (go_at_call 17; refine (abs_c _ (by first | exact H4.out | exact H.out | exact H2.out | exact (H5 _).out) _).mono ?_; rintro e w' ⟨rfl, rfl⟩)
    go_ret
    exact ⟨rfl, (Grown.refl _).drew.drew⟩
  | some r =>
    rw [hm] at hab
    obtain ⟨k, hk, hr⟩ := mul_form w0 w1 hm
    have hrl : r < 18446744073709551616 := by rw [hr]; exact wd_lt hk
    have hrn : isN r = false := by rw [hr]; exact wd_nan hk
    have hmul := fun t w => run_mul_ok (P := Try.prog) hm t w
    have hmul2 := fun t w => run_mul_ok (P := Try.prog) hab t w
    have hord := ord_self (absW_lt64 r) ((isN_abs r).trans hrn)
    have H5 := Lib.hid hrl
    clear w0 w1 hm hk hr hrl hrn hab
    go_enter Try.func7, Try.ntmps7
    go_wp2_with (go_at_call 17; refine (abs_c _ (by first | exact H4.out | exact H.out | exact H2.out | exact H5.out) _).mono ?_; rintro e w' ⟨rfl, rfl⟩)
    go_ret
    exact ⟨rfl, Grown.refl _⟩

set_option maxRecDepth 100000 in
theorem lifted (os : Os) (started : os.Started) (H : Type) (enc : TypeId × Value → H) :
    ReturnsInHanded {} Try.checked os 7 .any (Rows.fnAbsTimesSpec.pre6 enc Try.prog Try.f7 Rows.fnAbsTimesRow.domain false) (Rows.fnAbsTimesSpec.post enc Try.prog Try.f7 false true false false) := by
  refine returnsInHanded_of_change (C := Try.checked) own started (by kernel_rfl) Try.func7
    (ChangeSpec.witness6 (enc := enc) (C := Try.checked) false ⟨#[], #[.float .f64 0, .float .f64 0], []⟩ 8 (by kernel_rfl) (by kernel_rfl) (by kernel_rfl) (by kernel_rfl)) ?_
  intro W base args ds gs before hval0 hW hcnd _
  have hval : ∀ (j : Nat) t v, Try.f7.params[j]? = some t → args[j]? = some v → Value.okWide Try.prog W .any base t v := hval0
  have hW' := hW
  obtain ⟨p, q, hA0, hV, rfl, hfz, hnd⟩ := hW
  have hA : DataW.TrodAll enc Try.prog W 0 (fun _ => true) true Try.f7.params.toList args.toList ds p := hA0
  rw [Try.params7] at hA hval
  obtain ⟨v0, vs0, d0, ds0, p0, q0, hargs, rfl, rfl, h0, r0⟩ := trodAll_cons hA
  obtain ⟨v1, vs1, d1, ds1, p1, q1, rfl, rfl, rfl, h1, r1⟩ := trodAll_cons r0
  obtain ⟨rfl, rfl, rfl⟩ := trodAll_nil r1
  obtain rfl : args = #[v0, v1] := by cases args; simp_all
  obtain ⟨rfl, rfl⟩ := trodVars_none hV
  obtain ⟨a0, rfl, rfl, rfl, w0⟩ := open_float Try.underlying22 (hval 0 22 v0 rfl rfl) h0
  obtain ⟨a1, rfl, rfl, rfl, w1⟩ := open_float Try.underlying22 (hval 1 22 v1 rfl rfl) h1
  clear hA0 hval0
  simp only [List.append_nil] at hW'
  refine (walk a0 (wf_f64 w0) a1 (wf_f64 w1) W).mono fun e W' ⟨he, hg⟩ => ?_
  subst he
  exact ⟨_, rfl, post_of_same (pa := []) (pv := []) hW' (fun _ _ _ => (trodAll_cons_mk (shut_bool Try.underlying4 _) trodAll_mk0)) (fun sp _ => (trodAll_cons_mk (shut_float Try.underlying22 w0) (trodAll_cons_mk (shut_float Try.underlying22 w1) trodAll_mk0))) (fun _ _ => rfl) rfl
    (hg.frame _) hg.2.1 (ok_one (by kernel_rfl) rfl (okWide_bool_mk Try.underlying4 _))⟩

theorem over : Rows.fnAbsTimesRow.holds Try.pinned (OpenSpec.ofChange Rows.fnAbsTimesSpec) :=
  OpenClaim.holds_of_wide 7 Try.f7 rfl rfl rfl rfl rfl rfl rfl ⟨rfl, rfl, rfl, rfl, rfl⟩ rfl rfl rfl rfl rfl (by kernel_rfl) Try.func7 (by kernel_rfl)
    (of_decide_eq_true (by kernel_rfl)) (by unfold Func.isWrapper; first | (rw [if_pos (by decide +kernel)]; kernel_rfl) | (rw [if_neg (by decide +kernel)]; exact ⟨rfl, rfl⟩))
    (fun os started H enc _ => lifted os started H enc)

/-- the statement. -/
theorem proved : Rows.FnAbsTimesSaid :=
  over
#print axioms proved
end Go.Proofs.Ytjmmoimfdalekaa.fnAbsTimes
