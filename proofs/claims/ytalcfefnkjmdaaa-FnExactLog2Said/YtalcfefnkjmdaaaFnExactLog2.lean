/-
  For every float64 the law answers true: Log2 meets its special cases and is exact at powers of two.
  No condition: for every input of the parameter types.
-/
import Derived.Test.YtalcfefnkjmdaaaLg2
import Derived.OpenShut
namespace Go.Proofs.Ytalcfefnkjmdaaa.fnExactLog2
open Ieee Num Go.RowKit Go.ChangeShapes Go.WideShapes Go.ChangeAt
set_option linter.unusedVariables false

theorem own : ownKnob Try.prog.godebug = none := by kernel_rfl

/-- the law returns true. -/
theorem walk (a0 : Nat) (w0 : a0 < 18446744073709551616) (w : World) :
    Calls Try.prog 4 #[.float .f64 a0] w fun e w' => e = .returned (.bool true) ∧ Grown w w' := by
  have H := Lib.hid w0
  have HI : Hid (9218868437227405312 < 18446744073709551616) := Lib.hid (by decide)
  have HJ : Hid (18442240474082181120 < 18446744073709551616) := Lib.hid (by decide)
  by_cases hn : isN a0 = true
  · have ho := ord_nl a0 hn
    have HN : Hid (isN a0 = true ∨ 9223372036854775808 < a0) := Lib.hid (Or.inl hn)
    clear w0 hn
    go_enter Try.func4, Try.ntmps4
    go_wp2_with fail
    refine (log2_nan _ H.out HN.out _).mono ?_
    rintro e w' ⟨r, hr, hl, rfl, hg⟩
    have hr2 := ord_nl r hr
    have HG := Lib.hid hg
    clear hr hl hg
    go_wp2_with fail
    go_ret
    exact ⟨rfl, HG.out⟩
  · have hn : isN a0 = false := by simpa using hn
    have ho := ord_self w0 hn
    by_cases hs : 9223372036854775808 < a0
    · have ho2 := ord0_lt w0 hn hs
      have HN : Hid (isN a0 = true ∨ 9223372036854775808 < a0) := Lib.hid (Or.inr hs)
      clear w0 hn hs
      go_enter Try.func4, Try.ntmps4
      go_wp2_with fail
      refine (log2_nan _ H.out HN.out _).mono ?_
      rintro e w' ⟨r, hr, hl, rfl, hg⟩
      have hr2 := ord_nl r hr
      have HG := Lib.hid hg
      clear hr hl hg
      go_wp2_with fail
      go_ret
      exact ⟨rfl, HG.out⟩
    · by_cases h0 : absW a0 = 0
      · have ho2 : FloatKind.f64.format.order a0 0 = some .eq := by
          unfold absW at h0
          have : a0 = 0 ∨ a0 = 9223372036854775808 := by omega
          rcases this with h | h
          · rw [h]; exact ord0_pz
          · rw [h]; exact ord0_nz
        have HZ := Lib.hid h0
        have ha : alW 18442240474082181120 18442240474082181120 = true := alW_self _
        clear w0 hn hs h0
        go_enter Try.func4, Try.ntmps4
        go_wp2_with (first | (go_at_call 20; first | ((with_reducible refine (log2_zero _ H.out HZ.out _).mono ?_); rintro e w' ⟨rfl, rfl⟩)) | (go_at_call 22; first | ((with_reducible refine (logs_zero _ H.out HZ.out _).mono ?_); rintro e w' ⟨rfl, rfl⟩)) | (go_at_call 21; first | ((with_reducible refine (alike_c _ _ HJ.out HJ.out _).mono ?_); rintro e w' ⟨rfl, rfl⟩)))
        go_ret
        exact ⟨rfl, Grown.refl _⟩
      · have hlt : a0 < 9223372036854775808 := by unfold absW at h0; omega
        have hab : absW a0 = a0 := by unfold absW; omega
        have ho2 := ord0_gt hn (by omega) hlt
        by_cases hf : a0 < 9218868437227405312
        · have HF : Hid (absW a0 < 9218868437227405312) := Lib.hid (by omega)
          have H0 : Hid (0 < absW a0) := Lib.hid (by omega)
          have hb := xp_bd (r := a0) (by omega) hf
          have hpx := pw_bd hb
          obtain ⟨u, hu⟩ : ∃ u, u = xp a0 := ⟨_, rfl⟩
          have HX : Hid ((xp (absW a0) : Int) - 1074 = (u : Int) - 1074) := Lib.hid (by rw [hab, hu])
          have HU : Hid ((u : Int) - 1074 + 1074 = (u : Int)) := Lib.hid (by omega)
          rw [← hu] at hb hpx
          have HB := Lib.hid hb
          by_cases he : a0 = pw u
          · have hoo := ofInt_self (n := (u : Int) - 1074) (by omega)
            have hsf : FloatKind.f64.format.order (pw u) (pw u) = some .eq := by rw [← he]; exact ho
            obtain ⟨n, hnn⟩ : ∃ n : Int, (u : Int) - 1074 = n := ⟨_, rfl⟩
            have HN := Lib.hid hnn
            rw [hnn] at hoo
            subst he
            clear w0 hn hs h0 hlt hab hf hb hpx hu hnn
            go_enter Try.func4, Try.ntmps4
            go_wp2_with (go_at_call 15; first | ((with_reducible refine (finite_yes _ HF.out _).mono ?_); rintro e w' ⟨rfl, rfl⟩))
            refine (exponent_c _ H.out H0.out HF.out _).mono ?_
            rintro e w' ⟨rfl, rfl⟩
            rw [HX.out]
            go_wp2_with fail
            refine (power_u _ u HU.out HB.out _).mono ?_
            rintro e w' ⟨rfl, rfl⟩
            go_wp2_with fail
            refine (log2_pow u HB.out _).mono ?_
            rintro e w' ⟨rfl, rfl⟩
            rw [HN.out]
            go_wp2_with fail
            go_ret
            exact ⟨rfl, Grown.refl _⟩
          · have hne : (FloatKind.f64.format.order a0 (pw u) == some .eq) = false := eq_ne w0 (by omega) ⟨pw_nan hb, by have := pw_pos u; omega⟩ he
            have hne2 : (FloatKind.f64.format.order a0 (pw u) != some .eq) = true := by unfold bne; rw [hne]; rfl
            clear w0 hn hs h0 hlt hab hf hb hpx hu he
            go_enter Try.func4, Try.ntmps4
            go_wp2_with (go_at_call 15; first | ((with_reducible refine (finite_yes _ HF.out _).mono ?_); rintro e w' ⟨rfl, rfl⟩))
            refine (exponent_c _ H.out H0.out HF.out _).mono ?_
            rintro e w' ⟨rfl, rfl⟩
            rw [HX.out]
            go_wp2_with fail
            refine (power_u _ u HU.out HB.out _).mono ?_
            rintro e w' ⟨rfl, rfl⟩
            go_wp2_with fail
            go_ret
            exact ⟨rfl, Grown.refl _⟩
        · obtain rfl : a0 = 9218868437227405312 := by unfold isN at hn; simp only [decide_eq_false_iff_not] at hn; omega
          have HF : Hid (9218868437227405312 ≤ absW 9218868437227405312) := Lib.hid (by decide)
          have HP : Hid (isN 9218868437227405312 = false ∧ 0 < absW 9218868437227405312) := Lib.hid (by decide)
          have ha : alW 9218868437227405312 9218868437227405312 = true := alW_self _
          clear w0 hn hs h0 hlt hab hf
          go_enter Try.func4, Try.ntmps4
          go_wp2_with (first | (go_at_call 15; first | ((with_reducible refine (finite_no _ HF.out _).mono ?_); rintro e w' ⟨rfl, rfl⟩)) | (go_at_call 20; first | ((with_reducible refine (log2_inf _).mono ?_); rintro e w' ⟨rfl, rfl⟩)) | (go_at_call 22; first | ((with_reducible refine (logs_inf _ H.out HP.out.1 HP.out.2 _).mono ?_); rintro e w' ⟨rfl, rfl⟩)) | (go_at_call 21; first | ((with_reducible refine (alike_c _ _ HI.out HI.out _).mono ?_); rintro e w' ⟨rfl, rfl⟩)))
          go_ret
          exact ⟨rfl, (Grown.refl _).drew⟩

set_option maxRecDepth 100000 in
theorem lifted (os : Os) (started : os.Started) (H : Type) (enc : TypeId × Value → H) :
    ReturnsInHanded {} Try.checked os 4 .any (Rows.fnExactLog2Spec.pre6 enc Try.prog Try.f4 Rows.fnExactLog2Row.domain false) (Rows.fnExactLog2Spec.post enc Try.prog Try.f4 false true false false) := by
  refine returnsInHanded_of_change (C := Try.checked) own started (by kernel_rfl) Try.func4
    (ChangeSpec.witness6 (enc := enc) (C := Try.checked) false ⟨#[], #[.float .f64 0], []⟩ 8 (by kernel_rfl) (by kernel_rfl) (by kernel_rfl) (by kernel_rfl)) ?_
  intro W base args ds gs before hval0 hW hcnd _
  have hval : ∀ (j : Nat) t v, Try.f4.params[j]? = some t → args[j]? = some v → Value.okWide Try.prog W .any base t v := hval0
  have hW' := hW
  obtain ⟨p, q, hA0, hV, rfl, hfz, hnd⟩ := hW
  have hA : DataW.TrodAll enc Try.prog W 0 (fun _ => true) true Try.f4.params.toList args.toList ds p := hA0
  rw [Try.params4] at hA hval
  obtain ⟨v0, vs0, d0, ds0, p0, q0, hargs, rfl, rfl, h0, r0⟩ := trodAll_cons hA
  obtain ⟨rfl, rfl, rfl⟩ := trodAll_nil r0
  obtain rfl : args = #[v0] := by cases args; simp_all
  obtain ⟨rfl, rfl⟩ := trodVars_none hV
  obtain ⟨a0, rfl, rfl, rfl, w0⟩ := open_float Try.underlying22 (hval 0 22 v0 rfl rfl) h0
  clear hA0 hval0
  simp only [List.append_nil] at hW'
  refine (walk a0 (wf_f64 w0) W).mono fun e W' ⟨he, hg⟩ => ?_
  subst he
  exact ⟨_, rfl, post_of_same (pa := []) (pv := []) hW' (fun _ _ _ => (trodAll_cons_mk (shut_bool Try.underlying4 _) trodAll_mk0)) (fun sp _ => (trodAll_cons_mk (shut_float Try.underlying22 w0) trodAll_mk0)) (fun _ _ => rfl) rfl
    (hg.frame _) hg.2.1 (ok_one (by kernel_rfl) rfl (okWide_bool_mk Try.underlying4 _))⟩

theorem over : Rows.fnExactLog2Row.holds Try.pinned (OpenSpec.ofChange Rows.fnExactLog2Spec) :=
  OpenClaim.holds_of_wide 4 Try.f4 rfl rfl rfl rfl rfl rfl rfl ⟨rfl, rfl, rfl, rfl, rfl⟩ rfl rfl rfl rfl rfl (by kernel_rfl) Try.func4 (by kernel_rfl)
    (of_decide_eq_true (by kernel_rfl)) (by unfold Func.isWrapper; first | (rw [if_pos (by decide +kernel)]; kernel_rfl) | (rw [if_neg (by decide +kernel)]; exact ⟨rfl, rfl⟩))
    (fun os started H enc _ => lifted os started H enc)

/-- the statement. -/
theorem proved : Rows.FnExactLog2Said :=
  over
#print axioms proved
end Go.Proofs.Ytalcfefnkjmdaaa.fnExactLog2
