/-
  For every uint64 the law answers true: halfway between neighbouring non-negative floats the sum rounds to one of the two.
  No condition: for every input of the parameter types.
-/
import Derived.Test.YtfjophnfjfphgaaPow
import Derived.OpenShut
namespace Go.Proofs.Ytfjophnfjfphgaa.fnNext
open Ieee Num Go.RowKit Go.ChangeShapes Go.WideShapes Go.ChangeAt
set_option linter.unusedVariables false

theorem own : ownKnob Try.prog.godebug = none := by kernel_rfl

/-- the law returns true. -/
theorem walk (a0 : Nat) (w0 : a0 < 18446744073709551616) (w : World) :
    Calls Try.prog 7 #[.int .u64 (a0 : Nat)] w fun e w' => e = .returned (.bool true) ∧ Grown w w' := by
  have H := Lib.hid w0
  have o1 : FloatKind.f64.format.order 1 0 = some .gt := by decide +kernel
  by_cases h0 : 9218868437227405311 ≤ a0
  · obtain ⟨z, hz⟩ : ∃ z, IntKind.u64.wrap ((a0 : Int) + 1) = z := ⟨_, rfl⟩
    have g : decide ((9218868437227405311 : Int) ≤ (a0 : Int)) = true := by simp only [decide_eq_true_eq]; omega
    clear w0 h0
    go_enter Try.func7, Try.ntmps7
    go_wp2_with (go_at_call 22; refine (from64_c _ _).mono ?_; rintro e w' ⟨rfl, rfl⟩)
    go_ret
    exact ⟨rfl, Grown.refl _⟩
  · have h0 : a0 < 9218868437227405311 := by omega
    obtain ⟨b1, hb1⟩ : ∃ b1 : Nat, b1 = a0 + 1 := ⟨_, rfl⟩
    have hw : IntKind.u64.wrap ((a0 : Int) + 1) = (b1 : Int) := by rw [IntKind.wrap_u64]; omega
    have g : decide ((9218868437227405311 : Int) ≤ (a0 : Int)) = false := by simp only [decide_eq_false_iff_not]; omega
    obtain ⟨d, h, hsub, hdiv, hadd⟩ := next_mid h0
    rw [← hb1] at hsub hadd
    have r1 := fun t w => run_sub_ok (P := Try.prog) hsub t w
    have r2 := fun t w => run_div_ok (P := Try.prog) hdiv t w
    have ho : FloatKind.f64.format.order a0 b1 = some .lt := ord_ltw (by omega) (by omega) (by omega)
    have ho1 : FloatKind.f64.format.order b1 a0 = some .gt := ord_gtw (by omega) (by omega) (by omega)
    have ho2 : FloatKind.f64.format.order a0 a0 = some .eq := ord_self w0 (by unfold isN; simp only [decide_eq_false_iff_not]; omega)
    have ho3 : FloatKind.f64.format.order b1 b1 = some .eq := ord_self (by omega) (by unfold isN; simp only [decide_eq_false_iff_not]; omega)
    rcases hadd with hadd | hadd
    all_goals
      have r3 := fun t w => run_add_ok (P := Try.prog) hadd t w
      clear w0 h0 hb1 hsub hdiv hadd
      go_enter Try.func7, Try.ntmps7
      go_wp2_with (go_at_call 22; refine (from64_c _ _).mono ?_; rintro e w' ⟨rfl, rfl⟩)
      go_ret
      exact ⟨rfl, Grown.refl _⟩

set_option maxRecDepth 100000 in
theorem lifted (os : Os) (started : os.Started) (H : Type) (enc : TypeId × Value → H) :
    ReturnsInHanded {} Try.checked os 7 .any (Rows.fnNextSpec.pre6 enc Try.prog Try.f7 Rows.fnNextRow.domain false) (Rows.fnNextSpec.post enc Try.prog Try.f7 false true false false) := by
  refine returnsInHanded_of_change (C := Try.checked) own started (by kernel_rfl) Try.func7
    (ChangeSpec.witness6 (enc := enc) (C := Try.checked) false ⟨#[], #[.int .u64 0], []⟩ 8 (by kernel_rfl) (by kernel_rfl) (by kernel_rfl) (by kernel_rfl)) ?_
  intro W base args ds gs before hval0 hW hcnd _
  have hval : ∀ (j : Nat) t v, Try.f7.params[j]? = some t → args[j]? = some v → Value.okWide Try.prog W .any base t v := hval0
  have hW' := hW
  obtain ⟨p, q, hA0, hV, rfl, hfz, hnd⟩ := hW
  have hA : DataW.TrodAll enc Try.prog W 0 (fun _ => true) true Try.f7.params.toList args.toList ds p := hA0
  rw [Try.params7] at hA hval
  obtain ⟨v0, vs0, d0, ds0, p0, q0, hargs, rfl, rfl, h0, r0⟩ := trodAll_cons hA
  obtain ⟨rfl, rfl, rfl⟩ := trodAll_nil r0
  obtain rfl : args = #[v0] := by cases args; simp_all
  obtain ⟨rfl, rfl⟩ := trodVars_none hV
  obtain ⟨z0, rfl, rfl, rfl, w0⟩ := open_int Try.underlying30 (hval 0 30 v0 rfl rfl) h0
  obtain ⟨a0, rfl⟩ : ∃ a : Nat, z0 = (a : Int) := ⟨z0.toNat, by have := wf_u640 w0; omega⟩
  clear hA0 hval0
  simp only [List.append_nil] at hW'
  refine (walk a0 (wf_u64 w0) W).mono fun e W' ⟨he, hg⟩ => ?_
  subst he
  exact ⟨_, rfl, post_of_same (pa := []) (pv := []) hW' (fun _ _ _ => (trodAll_cons_mk (shut_bool Try.underlying4 _) trodAll_mk0)) (fun sp _ => (trodAll_cons_mk (shut_int Try.underlying30 w0) trodAll_mk0)) (fun _ _ => rfl) rfl
    (hg.frame _) hg.2.1 (ok_one (by kernel_rfl) rfl (okWide_bool_mk Try.underlying4 _))⟩

theorem over : Rows.fnNextRow.holds Try.pinned (OpenSpec.ofChange Rows.fnNextSpec) :=
  OpenClaim.holds_of_wide 7 Try.f7 rfl rfl rfl rfl rfl rfl rfl ⟨rfl, rfl, rfl, rfl, rfl⟩ rfl rfl rfl rfl rfl (by kernel_rfl) Try.func7 (by kernel_rfl)
    (of_decide_eq_true (by kernel_rfl)) (by unfold Func.isWrapper; first | (rw [if_pos (by decide +kernel)]; kernel_rfl) | (rw [if_neg (by decide +kernel)]; exact ⟨rfl, rfl⟩))
    (fun os started H enc _ => lifted os started H enc)

/-- the statement. -/
theorem proved : Rows.FnNextSaid :=
  over
#print axioms proved
end Go.Proofs.Ytfjophnfjfphgaa.fnNext
