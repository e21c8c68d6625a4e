/-
  For every float64 the law answers true: doubling a normal number raises Logb by one, short of overflow.
  No condition: for every input of the parameter types.
-/
import Derived.Test.YtalcfefnkjmdaaaLog2
import Derived.OpenShut
namespace Go.Proofs.Ytalcfefnkjmdaaa.fnLogbTwice
open Ieee Num Go.RowKit Go.ChangeShapes Go.WideShapes Go.ChangeAt
set_option linter.unusedVariables false

theorem own : ownKnob Try.prog.godebug = none := by kernel_rfl

/-- the law returns true. -/
theorem walk (a0 : Nat) (w0 : a0 < 18446744073709551616) (w : World) :
    Calls Try.prog 14 #[.float .f64 a0] w fun e w' => e = .returned (.bool true) ∧ Grown w w' := by
  have H := Lib.hid w0
  have h3 : FloatKind.f64.format.order 4613937818241073152 4613937818241073152 = some .eq := by decide +kernel
  by_cases hn : isN a0 = true
  · have ho := ord_nl a0 hn
    clear w0 hn
    go_enter Try.func14, Try.ntmps14
    go_wp2_with (first | (go_at_call 19; first | ((with_reducible refine (logb_8 _).mono ?_); rintro e w' ⟨rfl, rfl⟩)))
    go_ret
    exact ⟨rfl, Grown.refl _⟩
  · have hn : isN a0 = false := by simpa using hn
    have ho := ord_self w0 hn
    have hz : szW a0 = absW a0 := by unfold szW; rw [hn]; rfl
    obtain ⟨k, hk, hm, hx⟩ := twice w0 hn
    have hmul := fun t w => run_mul_ok (P := Try.prog) hm t w
    have hka : absW (wd (sgW a0) k) = k := wd_abs hk
    have HW := Lib.hid (wd_lt (s := sgW a0) hk)
    by_cases hf : k < 9218868437227405312
    · have HF2 : Hid (absW (wd (sgW a0) k) < 9218868437227405312) := Lib.hid (by omega)
      by_cases hs : absW a0 < 4503599627370496
      · have ho2 := ord_ltw (a := absW a0) (b := 4503599627370496) (by omega) (by decide) hs
        clear w0 hn hf hs hk hm hx hka
        go_enter Try.func14, Try.ntmps14
        go_wp2_with (first | (go_at_call 19; first | ((with_reducible refine (logb_8 _).mono ?_); rintro e w' ⟨rfl, rfl⟩)) | (go_at_call 15; first | ((with_reducible refine (finite_yes _ HF2.out _).mono ?_); rintro e w' ⟨rfl, rfl⟩)) | (go_at_call 16; first | ((with_reducible refine (size_c _ H.out _).mono ?_); rintro e w' ⟨rfl, rfl⟩)) | (go_at_call 17; first | ((with_reducible refine (power_low _).mono ?_); rintro e w' ⟨rfl, rfl⟩)))
        go_ret
        exact ⟨rfl, Grown.refl _⟩
      · have hke := hx (by omega) hf
        have hfa : absW a0 < 9218868437227405312 := by omega
        have ho2 : (FloatKind.f64.format.order (absW a0) 4503599627370496 == some .lt) = false := by
          by_cases e : absW a0 = 4503599627370496
          · rw [e]; decide +kernel
          · rw [ord_gtw (by omega) (by decide) (by omega)]; rfl
        have H0 : Hid (0 < absW a0) := Lib.hid (by omega)
        have HF := Lib.hid hfa
        have H02 : Hid (0 < absW (wd (sgW a0) k)) := Lib.hid (by omega)
        have hb := xp_bd H0.out hfa
        have x1 := xp_usual (r := absW a0) (by omega)
        have x2 := xp_usual (r := k) (by omega)
        have hxk : (xp (absW (wd (sgW a0) k)) : Int) - 1074 = (xp (absW a0) : Int) - 1074 + 1 := by rw [hka]; omega
        have HX := Lib.hid hxk
        have hadd := fun t w => run_add_ok (P := Try.prog) (add_one (n := (xp (absW a0) : Int) - 1074) (by omega)) t w
        have hoo := ofInt_self (n := (xp (absW a0) : Int) - 1074 + 1) (by omega)
        obtain ⟨n, hnn⟩ : ∃ n : Int, (xp (absW a0) : Int) - 1074 = n := ⟨_, rfl⟩
        rw [hnn] at hadd hoo
        have HN := Lib.hid hnn
        clear w0 hn hf hs hk hm hx hke hfa hb x1 x2 hxk hka hnn
        go_enter Try.func14, Try.ntmps14
        go_wp2_with (first | (go_at_call 15; first | ((with_reducible refine (finite_yes _ HF2.out _).mono ?_); rintro e w' ⟨rfl, rfl⟩)) | (go_at_call 16; first | ((with_reducible refine (size_c _ H.out _).mono ?_); rintro e w' ⟨rfl, rfl⟩)) | (go_at_call 17; first | ((with_reducible refine (power_low _).mono ?_); rintro e w' ⟨rfl, rfl⟩)))
        refine (logb_fin _ HW.out H02.out HF2.out _).mono ?_
        rintro e w' ⟨rfl, rfl⟩
        rw [HX.out, HN.out]
        go_wp2_with fail
        refine (logb_fin _ H.out H0.out HF.out _).mono ?_
        rintro e w' ⟨rfl, rfl⟩
        rw [HN.out]
        go_wp2_with fail
        go_ret
        exact ⟨rfl, Grown.refl _⟩
    · have HF2 : Hid (9218868437227405312 ≤ absW (wd (sgW a0) k)) := Lib.hid (by omega)
      clear w0 hn hf hk hm hx hka
      go_enter Try.func14, Try.ntmps14
      go_wp2_with (first | (go_at_call 19; first | ((with_reducible refine (logb_8 _).mono ?_); rintro e w' ⟨rfl, rfl⟩)) | (go_at_call 15; first | ((with_reducible refine (finite_no _ HF2.out _).mono ?_); rintro e w' ⟨rfl, rfl⟩)))
      go_ret
      exact ⟨rfl, (Grown.refl _).drew⟩

set_option maxRecDepth 100000 in
theorem lifted (os : Os) (started : os.Started) (H : Type) (enc : TypeId × Value → H) :
    ReturnsInHanded {} Try.checked os 14 .any (Rows.fnLogbTwiceSpec.pre6 enc Try.prog Try.f14 Rows.fnLogbTwiceRow.domain false) (Rows.fnLogbTwiceSpec.post enc Try.prog Try.f14 false true false false) := by
  refine returnsInHanded_of_change (C := Try.checked) own started (by kernel_rfl) Try.func14
    (ChangeSpec.witness6 (enc := enc) (C := Try.checked) false ⟨#[], #[.float .f64 0], []⟩ 8 (by kernel_rfl) (by kernel_rfl) (by kernel_rfl) (by kernel_rfl)) ?_
  intro W base args ds gs before hval0 hW hcnd _
  have hval : ∀ (j : Nat) t v, Try.f14.params[j]? = some t → args[j]? = some v → Value.okWide Try.prog W .any base t v := hval0
  have hW' := hW
  obtain ⟨p, q, hA0, hV, rfl, hfz, hnd⟩ := hW
  have hA : DataW.TrodAll enc Try.prog W 0 (fun _ => true) true Try.f14.params.toList args.toList ds p := hA0
  rw [Try.params14] at hA hval
  obtain ⟨v0, vs0, d0, ds0, p0, q0, hargs, rfl, rfl, h0, r0⟩ := trodAll_cons hA
  obtain ⟨rfl, rfl, rfl⟩ := trodAll_nil r0
  obtain rfl : args = #[v0] := by cases args; simp_all
  obtain ⟨rfl, rfl⟩ := trodVars_none hV
  obtain ⟨a0, rfl, rfl, rfl, w0⟩ := open_float Try.underlying22 (hval 0 22 v0 rfl rfl) h0
  clear hA0 hval0
  simp only [List.append_nil] at hW'
  refine (walk a0 (wf_f64 w0) W).mono fun e W' ⟨he, hg⟩ => ?_
  subst he
  exact ⟨_, rfl, post_of_same (pa := []) (pv := []) hW' (fun _ _ _ => (trodAll_cons_mk (shut_bool Try.underlying4 _) trodAll_mk0)) (fun sp _ => (trodAll_cons_mk (shut_float Try.underlying22 w0) trodAll_mk0)) (fun _ _ => rfl) rfl
    (hg.frame _) hg.2.1 (ok_one (by kernel_rfl) rfl (okWide_bool_mk Try.underlying4 _))⟩

theorem over : Rows.fnLogbTwiceRow.holds Try.pinned (OpenSpec.ofChange Rows.fnLogbTwiceSpec) :=
  OpenClaim.holds_of_wide 14 Try.f14 rfl rfl rfl rfl rfl rfl rfl ⟨rfl, rfl, rfl, rfl, rfl⟩ rfl rfl rfl rfl rfl (by kernel_rfl) Try.func14 (by kernel_rfl)
    (of_decide_eq_true (by kernel_rfl)) (by unfold Func.isWrapper; first | (rw [if_pos (by decide +kernel)]; kernel_rfl) | (rw [if_neg (by decide +kernel)]; exact ⟨rfl, rfl⟩))
    (fun os started H enc _ => lifted os started H enc)

/-- the statement. -/
theorem proved : Rows.FnLogbTwiceSaid :=
  over
#print axioms proved
end Go.Proofs.Ytalcfefnkjmdaaa.fnLogbTwice
