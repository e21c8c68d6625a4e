/-
  For all pairs of float64 the law answers true: Copysign keeps NaN, and else gives its first argument up to sign.
  No condition: for every input of the parameter types.
-/
import Derived.Test.YtjmmoimfdalekaaBas
import Derived.OpenShut
namespace Go.Proofs.Ytjmmoimfdalekaa.fnExactCopysignNone
open Ieee Num Go.RowKit Go.ChangeShapes Go.WideShapes Go.ChangeAt
set_option linter.unusedVariables false

theorem own : ownKnob Try.prog.godebug = none := by kernel_rfl

/-- the law returns true. -/
theorem walk (a0 : Nat) (w0 : a0 < 18446744073709551616) (a1 : Nat) (w1 : a1 < 18446744073709551616) (w : World) :
    Calls Try.prog 12 #[.float .f64 a0, .float .f64 a1] w fun e w' => e = .returned (.bool true) ∧ Grown w w' := by
  have H := Lib.hid w0
  have H2 := Lib.hid w1
  have hl : absW a0 + (a1 - absW a1) < 18446744073709551616 := by
    have := absW_lt a0
    have := signpart w1
    omega
  have HL := Lib.hid hl
  by_cases hn : isN a0 = true
  · have h1 := ord_nl a0 hn
    have hx : isN (absW a0 + (a1 - absW a1)) = true := by
      unfold isN absW at *
      have := signpart w1
      unfold absW at this
      simp only [decide_eq_true_eq] at *
      omega
    have h2 := ord_nl (absW a0 + (a1 - absW a1)) hx
    clear w0 w1 hn hl hx
    go_enter Try.func12, Try.ntmps12
    go_wp2_with (go_at_call 20; refine (copysign_c _ _ H.out H2.out _).mono ?_; rintro e w' ⟨rfl, rfl⟩)
    go_ret
    exact ⟨rfl, Grown.refl _⟩
  · have hn : isN a0 = false := by simpa using hn
    have h1 := ord_self w0 hn
    have hneg := fun w => run_neg (P := Try.prog) w0 w
    have H3 := Lib.hid (negW_lt w0)
    have ho : absW a0 + (a1 - absW a1) = a0 ∨ absW a0 + (a1 - absW a1) = negW a0 := by
      have := signpart w1
      unfold negW
      unfold absW at *
      split <;> omega
    have ha : alW (absW a0 + (a1 - absW a1)) a0 = true ∨ (alW (absW a0 + (a1 - absW a1)) a0 = false ∧ alW (absW a0 + (a1 - absW a1)) (negW a0) = true) := by
      rcases ho with ho | ho
      · left; rw [ho]; exact alW_self _
      · right
        rw [ho]
        refine ⟨?_, alW_self _⟩
        unfold alW
        rw [isN_neg w0, hn]
        have : ¬ negW a0 = a0 := by unfold negW; split <;> omega
        simp [this]
    rcases ha with ha | ⟨ha, hb⟩
    all_goals
      clear w0 w1 hn hl ho
      go_enter Try.func12, Try.ntmps12
      go_wp2_with (first | (go_at_call 20; refine (copysign_c _ _ H.out H2.out _).mono ?_; rintro e w' ⟨rfl, rfl⟩) | (go_at_call 18; refine (alike_c _ _ (by exact HL.out) (by first | exact H.out | exact H3.out) _).mono ?_; rintro e w' ⟨rfl, rfl⟩))
      go_ret
      exact ⟨rfl, Grown.refl _⟩

set_option maxRecDepth 100000 in
theorem lifted (os : Os) (started : os.Started) (H : Type) (enc : TypeId × Value → H) :
    ReturnsInHanded {} Try.checked os 12 .any (Rows.fnExactCopysignNoneSpec.pre6 enc Try.prog Try.f12 Rows.fnExactCopysignNoneRow.domain false) (Rows.fnExactCopysignNoneSpec.post enc Try.prog Try.f12 false true false false) := by
  refine returnsInHanded_of_change (C := Try.checked) own started (by kernel_rfl) Try.func12
    (ChangeSpec.witness6 (enc := enc) (C := Try.checked) false ⟨#[], #[.float .f64 0, .float .f64 0], []⟩ 8 (by kernel_rfl) (by kernel_rfl) (by kernel_rfl) (by kernel_rfl)) ?_
  intro W base args ds gs before hval0 hW hcnd _
  have hval : ∀ (j : Nat) t v, Try.f12.params[j]? = some t → args[j]? = some v → Value.okWide Try.prog W .any base t v := hval0
  have hW' := hW
  obtain ⟨p, q, hA0, hV, rfl, hfz, hnd⟩ := hW
  have hA : DataW.TrodAll enc Try.prog W 0 (fun _ => true) true Try.f12.params.toList args.toList ds p := hA0
  rw [Try.params12] at hA hval
  obtain ⟨v0, vs0, d0, ds0, p0, q0, hargs, rfl, rfl, h0, r0⟩ := trodAll_cons hA
  obtain ⟨v1, vs1, d1, ds1, p1, q1, rfl, rfl, rfl, h1, r1⟩ := trodAll_cons r0
  obtain ⟨rfl, rfl, rfl⟩ := trodAll_nil r1
  obtain rfl : args = #[v0, v1] := by cases args; simp_all
  obtain ⟨rfl, rfl⟩ := trodVars_none hV
  obtain ⟨a0, rfl, rfl, rfl, w0⟩ := open_float Try.underlying22 (hval 0 22 v0 rfl rfl) h0
  obtain ⟨a1, rfl, rfl, rfl, w1⟩ := open_float Try.underlying22 (hval 1 22 v1 rfl rfl) h1
  clear hA0 hval0
  simp only [List.append_nil] at hW'
  refine (walk a0 (wf_f64 w0) a1 (wf_f64 w1) W).mono fun e W' ⟨he, hg⟩ => ?_
  subst he
  exact ⟨_, rfl, post_of_same (pa := []) (pv := []) hW' (fun _ _ _ => (trodAll_cons_mk (shut_bool Try.underlying4 _) trodAll_mk0)) (fun sp _ => (trodAll_cons_mk (shut_float Try.underlying22 w0) (trodAll_cons_mk (shut_float Try.underlying22 w1) trodAll_mk0))) (fun _ _ => rfl) rfl
    (hg.frame _) hg.2.1 (ok_one (by kernel_rfl) rfl (okWide_bool_mk Try.underlying4 _))⟩

theorem over : Rows.fnExactCopysignNoneRow.holds Try.pinned (OpenSpec.ofChange Rows.fnExactCopysignNoneSpec) :=
  OpenClaim.holds_of_wide 12 Try.f12 rfl rfl rfl rfl rfl rfl rfl ⟨rfl, rfl, rfl, rfl, rfl⟩ rfl rfl rfl rfl rfl (by kernel_rfl) Try.func12 (by kernel_rfl)
    (of_decide_eq_true (by kernel_rfl)) (by unfold Func.isWrapper; first | (rw [if_pos (by decide +kernel)]; kernel_rfl) | (rw [if_neg (by decide +kernel)]; exact ⟨rfl, rfl⟩))
    (fun os started H enc _ => lifted os started H enc)

/-- the statement. -/
theorem proved : Rows.FnExactCopysignNoneSaid :=
  over
#print axioms proved
end Go.Proofs.Ytjmmoimfdalekaa.fnExactCopysignNone
