/-
  For every uint64 the law answers true: on normal numbers Ilogb is the exponent field less the bias.
  No condition: for every input of the parameter types.
-/
import Derived.Test.YtalcfefnkjmdaaaLog
import Derived.OpenShut
namespace Go.Proofs.Ytalcfefnkjmdaaa.fnLogbBits
open Ieee Num Go.RowKit Go.ChangeShapes Go.WideShapes Go.ChangeAt
set_option linter.unusedVariables false

theorem own : ownKnob Try.prog.godebug = none := by kernel_rfl

/-- the law returns true. -/
theorem walk (a0 : Nat) (w0 : a0 < 18446744073709551616) (w : World) :
    Calls Try.prog 9 #[.int .u64 (a0 : Nat)] w fun e w' => e = .returned (.bool true) ∧ Grown w w' := by
  have H := Lib.hid w0
  obtain ⟨q, hq⟩ : ∃ q, q = a0 / 4503599627370496 % 2048 := ⟨_, rfl⟩
  have ge : (a0 : Int) / 4503599627370496 % 2048 = (q : Int) := by omega
  have hqb : (q : Int) < 2048 := by omega
  by_cases h0 : q = 0
  · have g : ((q : Int) == 0) = true := by simp only [beq_iff_eq]; omega
    clear w0 hq h0
    go_enter Try.func9, Try.ntmps9
    go_wp2_with (first | (go_at_call 18; first | ((with_reducible refine (ilogb_8 _).mono ?_); rintro e w' ⟨rfl, rfl⟩)))
    go_ret
    exact ⟨rfl, Grown.refl _⟩
  · have g : ((q : Int) == 0) = false := by simp only [beq_eq_false_iff_ne, ne_eq]; omega
    by_cases h7 : q = 2047
    · have g2 : ((q : Int) == 2047) = true := by simp only [beq_iff_eq]; omega
      clear w0 hq h0 h7
      go_enter Try.func9, Try.ntmps9
      go_wp2_with (first | (go_at_call 18; first | ((with_reducible refine (ilogb_8 _).mono ?_); rintro e w' ⟨rfl, rfl⟩)))
      go_ret
      exact ⟨rfl, Grown.refl _⟩
    · have g2 : ((q : Int) == 2047) = false := by simp only [beq_eq_false_iff_ne, ne_eq]; omega
      have ha : absW a0 = a0 % 9223372036854775808 := rfl
      have H0 : Hid (0 < absW a0) := Lib.hid (by omega)
      have HF : Hid (absW a0 < 9218868437227405312) := Lib.hid (by omega)
      have hx := xp_usual (r := absW a0) (by omega)
      have hxe : (xp (absW a0) : Int) - 1074 = (q : Int) - 1023 := by omega
      clear w0 hq h0 h7 ha hx
      go_enter Try.func9, Try.ntmps9
      go_wp2_with (first | (go_at_call 24; first | ((with_reducible refine (from64_c _ _).mono ?_); rintro e w' ⟨rfl, rfl⟩)) | (go_at_call 18; first | ((with_reducible refine (ilogb_fin _ H.out H0.out HF.out _).mono ?_); rintro e w' ⟨rfl, rfl⟩)))
      go_ret
      exact ⟨rfl, Grown.refl _⟩

set_option maxRecDepth 100000 in
theorem lifted (os : Os) (started : os.Started) (H : Type) (enc : TypeId × Value → H) :
    ReturnsInHanded {} Try.checked os 9 .any (Rows.fnLogbBitsSpec.pre6 enc Try.prog Try.f9 Rows.fnLogbBitsRow.domain false) (Rows.fnLogbBitsSpec.post enc Try.prog Try.f9 false true false false) := by
  refine returnsInHanded_of_change (C := Try.checked) own started (by kernel_rfl) Try.func9
    (ChangeSpec.witness6 (enc := enc) (C := Try.checked) false ⟨#[], #[.int .u64 0], []⟩ 8 (by kernel_rfl) (by kernel_rfl) (by kernel_rfl) (by kernel_rfl)) ?_
  intro W base args ds gs before hval0 hW hcnd _
  have hval : ∀ (j : Nat) t v, Try.f9.params[j]? = some t → args[j]? = some v → Value.okWide Try.prog W .any base t v := hval0
  have hW' := hW
  obtain ⟨p, q, hA0, hV, rfl, hfz, hnd⟩ := hW
  have hA : DataW.TrodAll enc Try.prog W 0 (fun _ => true) true Try.f9.params.toList args.toList ds p := hA0
  rw [Try.params9] at hA hval
  obtain ⟨v0, vs0, d0, ds0, p0, q0, hargs, rfl, rfl, h0, r0⟩ := trodAll_cons hA
  obtain ⟨rfl, rfl, rfl⟩ := trodAll_nil r0
  obtain rfl : args = #[v0] := by cases args; simp_all
  obtain ⟨rfl, rfl⟩ := trodVars_none hV
  obtain ⟨z0, rfl, rfl, rfl, w0⟩ := open_int Try.underlying29 (hval 0 29 v0 rfl rfl) h0
  obtain ⟨a0, rfl⟩ : ∃ a : Nat, z0 = (a : Int) := ⟨z0.toNat, by have := wf_u640 w0; omega⟩
  clear hA0 hval0
  simp only [List.append_nil] at hW'
  refine (walk a0 (wf_u64 w0) W).mono fun e W' ⟨he, hg⟩ => ?_
  subst he
  exact ⟨_, rfl, post_of_same (pa := []) (pv := []) hW' (fun _ _ _ => (trodAll_cons_mk (shut_bool Try.underlying4 _) trodAll_mk0)) (fun sp _ => (trodAll_cons_mk (shut_int Try.underlying29 w0) trodAll_mk0)) (fun _ _ => rfl) rfl
    (hg.frame _) hg.2.1 (ok_one (by kernel_rfl) rfl (okWide_bool_mk Try.underlying4 _))⟩

theorem over : Rows.fnLogbBitsRow.holds Try.pinned (OpenSpec.ofChange Rows.fnLogbBitsSpec) :=
  OpenClaim.holds_of_wide 9 Try.f9 rfl rfl rfl rfl rfl rfl rfl ⟨rfl, rfl, rfl, rfl, rfl⟩ rfl rfl rfl rfl rfl (by kernel_rfl) Try.func9 (by kernel_rfl)
    (of_decide_eq_true (by kernel_rfl)) (by unfold Func.isWrapper; first | (rw [if_pos (by decide +kernel)]; kernel_rfl) | (rw [if_neg (by decide +kernel)]; exact ⟨rfl, rfl⟩))
    (fun os started H enc _ => lifted os started H enc)

/-- the statement. -/
theorem proved : Rows.FnLogbBitsSaid :=
  over
#print axioms proved
end Go.Proofs.Ytalcfefnkjmdaaa.fnLogbBits
