/-
  For every uint32 the law answers true: widening a normal float32 rebiases its exponent and pads its fraction.
  No condition: for every input of the parameter types.
-/
import Derived.Test.YtfjophnfjfphgaaBas
import Derived.Test.YtfjophnfjfphgaaSgl
import Derived.OpenShut
namespace Go.Proofs.Ytfjophnfjfphgaa.fnWiden
open Ieee Num Go.RowKit Go.ChangeShapes Go.WideShapes Go.ChangeAt
set_option linter.unusedVariables false

theorem own : ownKnob Try.prog.godebug = none := by kernel_rfl

/-- the law returns true. -/
theorem walk (a0 : Nat) (w0 : a0 < 4294967296) (w : World) :
    Calls Try.prog 14 #[.int .u32 (a0 : Nat)] w fun e w' => e = .returned (.bool true) ∧ Grown w w' := by
  have h1 := bits64
  have h2 := from32
  have h3 := bits32
  have H := Lib.hid w0
  by_cases h0 : a0 / 8388608 % 256 = 0
  · have g : ((a0 : Int) / 8388608 % 256 == 0) = true := by simp only [beq_iff_eq]; omega
    clear w0 h0
    go_enter Try.func14, Try.ntmps14
    go_wp2
    go_ret
    exact ⟨rfl, Grown.refl _⟩
  · have g : ((a0 : Int) / 8388608 % 256 == 0) = false := by simp only [beq_eq_false_iff_ne, ne_eq]; omega
    by_cases h5 : a0 / 8388608 % 256 = 255
    · have g2 : ((a0 : Int) / 8388608 % 256 == 255) = true := by simp only [beq_iff_eq]; omega
      clear w0 h0 h5
      go_enter Try.func14, Try.ntmps14
      go_wp2
      go_ret
      exact ⟨rfl, Grown.refl _⟩
    · have g2 : ((a0 : Int) / 8388608 % 256 == 255) = false := by simp only [beq_eq_false_iff_ne, ne_eq]; omega
      have hn : isN32 a0 = false := by unfold isN32; simp only [decide_eq_false_iff_not]; omega
      have hc := fun w => run_convert_float_float (P := Try.prog) w 22 27 .f32 .f64 a0 _ (by rw [Try.underlying22]; rfl) Try.underlying27 (wid_bits hn)
      have HA := Lib.hid h0
      have HB := Lib.hid h5
      clear w0 h0 h5 hn
      go_enter Try.func14, Try.ntmps14
      go_wp2
      go_ret
      refine ⟨ret_bool ?_, Grown.refl _⟩
      rw [wid_usual H.out HA.out HB.out]
      have := H.out
      simp only [IntKind.wrap_u64, beq_iff_eq]
      omega

set_option maxRecDepth 100000 in
theorem lifted (os : Os) (started : os.Started) (H : Type) (enc : TypeId × Value → H) :
    ReturnsInHanded {} Try.checked os 14 .any (Rows.fnWidenSpec.pre6 enc Try.prog Try.f14 Rows.fnWidenRow.domain false) (Rows.fnWidenSpec.post enc Try.prog Try.f14 false true false false) := by
  refine returnsInHanded_of_change (C := Try.checked) own started (by kernel_rfl) Try.func14
    (ChangeSpec.witness6 (enc := enc) (C := Try.checked) false ⟨#[], #[.int .u32 0], []⟩ 8 (by kernel_rfl) (by kernel_rfl) (by kernel_rfl) (by kernel_rfl)) ?_
  intro W base args ds gs before hval0 hW hcnd _
  have hval : ∀ (j : Nat) t v, Try.f14.params[j]? = some t → args[j]? = some v → Value.okWide Try.prog W .any base t v := hval0
  have hW' := hW
  obtain ⟨p, q, hA0, hV, rfl, hfz, hnd⟩ := hW
  have hA : DataW.TrodAll enc Try.prog W 0 (fun _ => true) true Try.f14.params.toList args.toList ds p := hA0
  rw [Try.params14] at hA hval
  obtain ⟨v0, vs0, d0, ds0, p0, q0, hargs, rfl, rfl, h0, r0⟩ := trodAll_cons hA
  obtain ⟨rfl, rfl, rfl⟩ := trodAll_nil r0
  obtain rfl : args = #[v0] := by cases args; simp_all
  obtain ⟨rfl, rfl⟩ := trodVars_none hV
  obtain ⟨z0, rfl, rfl, rfl, w0⟩ := open_int Try.underlying23 (hval 0 23 v0 rfl rfl) h0
  obtain ⟨a0, rfl⟩ : ∃ a : Nat, z0 = (a : Int) := ⟨z0.toNat, by have := wf_u320 w0; omega⟩
  clear hA0 hval0
  simp only [List.append_nil] at hW'
  refine (walk a0 (wf_u32 w0) W).mono fun e W' ⟨he, hg⟩ => ?_
  subst he
  exact ⟨_, rfl, post_of_same (pa := []) (pv := []) hW' (fun _ _ _ => (trodAll_cons_mk (shut_bool Try.underlying4 _) trodAll_mk0)) (fun sp _ => (trodAll_cons_mk (shut_int Try.underlying23 w0) trodAll_mk0)) (fun _ _ => rfl) rfl
    (hg.frame _) hg.2.1 (ok_one (by kernel_rfl) rfl (okWide_bool_mk Try.underlying4 _))⟩

theorem over : Rows.fnWidenRow.holds Try.pinned (OpenSpec.ofChange Rows.fnWidenSpec) :=
  OpenClaim.holds_of_wide 14 Try.f14 rfl rfl rfl rfl rfl rfl rfl ⟨rfl, rfl, rfl, rfl, rfl⟩ rfl rfl rfl rfl rfl (by kernel_rfl) Try.func14 (by kernel_rfl)
    (of_decide_eq_true (by kernel_rfl)) (by unfold Func.isWrapper; first | (rw [if_pos (by decide +kernel)]; kernel_rfl) | (rw [if_neg (by decide +kernel)]; exact ⟨rfl, rfl⟩))
    (fun os started H enc _ => lifted os started H enc)

/-- the statement. -/
theorem proved : Rows.FnWidenSaid :=
  over
#print axioms proved
end Go.Proofs.Ytfjophnfjfphgaa.fnWiden
