/-
  For all pairs of float64 the law answers true: off NaN, Signbit sees the copied sign, and copying back restores the number.
  No condition: for every input of the parameter types.
-/
import Derived.Test.YtginlhkoeabjgaaBas
import Derived.OpenShut
namespace Go.Proofs.Ytginlhkoeabjgaa.fnCopysignTwice
open Ieee Num Go.RowKit Go.ChangeShapes Go.WideShapes Go.ChangeAt
set_option linter.unusedVariables false

theorem own : ownKnob Try.prog.godebug = none := by kernel_rfl

/-- the law returns true. -/
theorem walk (a0 : Nat) (w0 : a0 < 18446744073709551616) (a1 : Nat) (w1 : a1 < 18446744073709551616) (w : World) :
    Calls Try.prog 8 #[.float .f64 a0, .float .f64 a1] w fun e w' => e = .returned (.bool true) ∧ Grown w w' := by
  have H := Lib.hid w0
  have H2 := Lib.hid w1
  have H3 : Hid (13830554455654793216 < 18446744073709551616) := Lib.hid (by decide)
  have hs : sgW 13830554455654793216 = true := by decide
  by_cases hn : isN a0 = true
  · have h1 := ord_nl a0 hn
    clear w0 w1 hn
    go_enter Try.func8, Try.ntmps8
    go_wp2_with (go_at_call 20; refine (signbit_c _ (by first | exact H3.out) _).mono ?_; rintro e w' ⟨rfl, rfl⟩)
    go_ret
    exact ⟨rfl, Grown.refl _⟩
  · have hn : isN a0 = false := by simpa using hn
    have h1 := ord_self w0 hn
    by_cases hm : isN a1 = true
    · have h2 := ord_nl a1 hm
      clear w0 w1 hn hm
      go_enter Try.func8, Try.ntmps8
      go_wp2_with (go_at_call 20; refine (signbit_c _ (by first | exact H3.out) _).mono ?_; rintro e w' ⟨rfl, rfl⟩)
      go_ret
      exact ⟨rfl, Grown.refl _⟩
    · have hm : isN a1 = false := by simpa using hm
      have h2 := ord_self w1 hm
      have hl : absW a0 + (a1 - absW a1) < 18446744073709551616 := by
        have := absW_lt a0
        have := signpart w1
        omega
      have hz : sgW (absW a0 + (a1 - absW a1)) = sgW a1 := by
        unfold sgW absW
        rw [Bool.eq_iff_iff]
        simp only [decide_eq_true_eq]
        omega
      have hb : absW (absW a0 + (a1 - absW a1)) + (a0 - absW a0) = a0 := by
        unfold absW
        omega
      have ht : alW (absW (absW a0 + (a1 - absW a1)) + (a0 - absW a0)) a0 = true := by rw [hb]; exact alW_self a0
      have HL := Lib.hid hl
      have HB := Lib.hid hb
      clear w0 w1 hn hm hl hb
      go_enter Try.func8, Try.ntmps8
      go_wp2_with (first | (go_at_call 20; refine (signbit_c _ (by first | exact H3.out | exact H2.out | exact HL.out) _).mono ?_; rintro e w' ⟨rfl, rfl⟩) | (go_at_call 18; refine (copysign_c _ _ (by first | exact H.out | exact HL.out) (by first | exact H2.out | exact H.out) _).mono ?_; rintro e w' ⟨rfl, rfl⟩) | (go_at_call 21; refine (alike_c _ _ (by rw [HB.out]; exact H.out) (by exact H.out) _).mono ?_; rintro e w' ⟨rfl, rfl⟩))
      go_ret
      exact ⟨rfl, Grown.refl _⟩

set_option maxRecDepth 100000 in
theorem lifted (os : Os) (started : os.Started) (H : Type) (enc : TypeId × Value → H) :
    ReturnsInHanded {} Try.checked os 8 .any (Rows.fnCopysignTwiceSpec.pre6 enc Try.prog Try.f8 Rows.fnCopysignTwiceRow.domain false) (Rows.fnCopysignTwiceSpec.post enc Try.prog Try.f8 false true false false) := by
  refine returnsInHanded_of_change (C := Try.checked) own started (by kernel_rfl) Try.func8
    (ChangeSpec.witness6 (enc := enc) (C := Try.checked) false ⟨#[], #[.float .f64 0, .float .f64 0], []⟩ 8 (by kernel_rfl) (by kernel_rfl) (by kernel_rfl) (by kernel_rfl)) ?_
  intro W base args ds gs before hval0 hW hcnd _
  have hval : ∀ (j : Nat) t v, Try.f8.params[j]? = some t → args[j]? = some v → Value.okWide Try.prog W .any base t v := hval0
  have hW' := hW
  obtain ⟨p, q, hA0, hV, rfl, hfz, hnd⟩ := hW
  have hA : DataW.TrodAll enc Try.prog W 0 (fun _ => true) true Try.f8.params.toList args.toList ds p := hA0
  rw [Try.params8] at hA hval
  obtain ⟨v0, vs0, d0, ds0, p0, q0, hargs, rfl, rfl, h0, r0⟩ := trodAll_cons hA
  obtain ⟨v1, vs1, d1, ds1, p1, q1, rfl, rfl, rfl, h1, r1⟩ := trodAll_cons r0
  obtain ⟨rfl, rfl, rfl⟩ := trodAll_nil r1
  obtain rfl : args = #[v0, v1] := by cases args; simp_all
  obtain ⟨rfl, rfl⟩ := trodVars_none hV
  obtain ⟨a0, rfl, rfl, rfl, w0⟩ := open_float Try.underlying22 (hval 0 22 v0 rfl rfl) h0
  obtain ⟨a1, rfl, rfl, rfl, w1⟩ := open_float Try.underlying22 (hval 1 22 v1 rfl rfl) h1
  clear hA0 hval0
  simp only [List.append_nil] at hW'
  refine (walk a0 (wf_f64 w0) a1 (wf_f64 w1) W).mono fun e W' ⟨he, hg⟩ => ?_
  subst he
  exact ⟨_, rfl, post_of_same (pa := []) (pv := []) hW' (fun _ _ _ => (trodAll_cons_mk (shut_bool Try.underlying4 _) trodAll_mk0)) (fun sp _ => (trodAll_cons_mk (shut_float Try.underlying22 w0) (trodAll_cons_mk (shut_float Try.underlying22 w1) trodAll_mk0))) (fun _ _ => rfl) rfl
    (hg.frame _) hg.2.1 (ok_one (by kernel_rfl) rfl (okWide_bool_mk Try.underlying4 _))⟩

theorem over : Rows.fnCopysignTwiceRow.holds Try.pinned (OpenSpec.ofChange Rows.fnCopysignTwiceSpec) :=
  OpenClaim.holds_of_wide 8 Try.f8 rfl rfl rfl rfl rfl rfl rfl ⟨rfl, rfl, rfl, rfl, rfl⟩ rfl rfl rfl rfl rfl (by kernel_rfl) Try.func8 (by kernel_rfl)
    (of_decide_eq_true (by kernel_rfl)) (by unfold Func.isWrapper; first | (rw [if_pos (by decide +kernel)]; kernel_rfl) | (rw [if_neg (by decide +kernel)]; exact ⟨rfl, rfl⟩))
    (fun os started H enc _ => lifted os started H enc)

/-- the statement. -/
theorem proved : Rows.FnCopysignTwiceSaid :=
  over
#print axioms proved
end Go.Proofs.Ytginlhkoeabjgaa.fnCopysignTwice
