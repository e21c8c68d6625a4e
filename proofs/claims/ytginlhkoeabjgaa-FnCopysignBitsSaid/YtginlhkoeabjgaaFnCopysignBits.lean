/-
  For all pairs of uint64 the law answers true: Copysign works on bit 63 alone, NaN included.
  No condition: for every input of the parameter types.
-/
import Derived.Test.YtginlhkoeabjgaaBas
import Derived.OpenShut
namespace Go.Proofs.Ytginlhkoeabjgaa.fnCopysignBits
open Ieee Num Go.RowKit Go.ChangeShapes Go.WideShapes Go.ChangeAt
set_option linter.unusedVariables false

theorem own : ownKnob Try.prog.godebug = none := by kernel_rfl

/-- the law returns true. -/
theorem walk (a0 : Nat) (w0 : a0 < 18446744073709551616) (a1 : Nat) (w1 : a1 < 18446744073709551616) (w : World) :
    Calls Try.prog 7 #[.int .u64 (a0 : Nat), .int .u64 (a1 : Nat)] w fun e w' => e = .returned (.bool true) ∧ Grown w w' := by
  have H := Lib.hid w0
  have H2 := Lib.hid w1
  have h1 := bits64
  have h2 := from64
  clear w0 w1
  go_enter Try.func7, Try.ntmps7
  go_wp2_with (first | (go_at_call 18; refine (copysign_c _ _ (by first | exact H.out) (by first | exact H2.out) _).mono ?_; rintro e w' ⟨rfl, rfl⟩) | (go_at_call 15; go_in) | (go_at_call 19; go_in))
  go_ret
  exact ⟨ret_bool (by rw [bits_low H.out, bits_sign H2.out, bits_join H2.out]; simp), Grown.refl _⟩

set_option maxRecDepth 100000 in
theorem lifted (os : Os) (started : os.Started) (H : Type) (enc : TypeId × Value → H) :
    ReturnsInHanded {} Try.checked os 7 .any (Rows.fnCopysignBitsSpec.pre6 enc Try.prog Try.f7 Rows.fnCopysignBitsRow.domain false) (Rows.fnCopysignBitsSpec.post enc Try.prog Try.f7 false true false false) := by
  refine returnsInHanded_of_change (C := Try.checked) own started (by kernel_rfl) Try.func7
    (ChangeSpec.witness6 (enc := enc) (C := Try.checked) false ⟨#[], #[.int .u64 0, .int .u64 0], []⟩ 8 (by kernel_rfl) (by kernel_rfl) (by kernel_rfl) (by kernel_rfl)) ?_
  intro W base args ds gs before hval0 hW hcnd _
  have hval : ∀ (j : Nat) t v, Try.f7.params[j]? = some t → args[j]? = some v → Value.okWide Try.prog W .any base t v := hval0
  have hW' := hW
  obtain ⟨p, q, hA0, hV, rfl, hfz, hnd⟩ := hW
  have hA : DataW.TrodAll enc Try.prog W 0 (fun _ => true) true Try.f7.params.toList args.toList ds p := hA0
  rw [Try.params7] at hA hval
  obtain ⟨v0, vs0, d0, ds0, p0, q0, hargs, rfl, rfl, h0, r0⟩ := trodAll_cons hA
  obtain ⟨v1, vs1, d1, ds1, p1, q1, rfl, rfl, rfl, h1, r1⟩ := trodAll_cons r0
  obtain ⟨rfl, rfl, rfl⟩ := trodAll_nil r1
  obtain rfl : args = #[v0, v1] := by cases args; simp_all
  obtain ⟨rfl, rfl⟩ := trodVars_none hV
  obtain ⟨z0, rfl, rfl, rfl, w0⟩ := open_int Try.underlying24 (hval 0 24 v0 rfl rfl) h0
  obtain ⟨a0, rfl⟩ : ∃ a : Nat, z0 = (a : Int) := ⟨z0.toNat, by have := wf_u640 w0; omega⟩
  obtain ⟨z1, rfl, rfl, rfl, w1⟩ := open_int Try.underlying24 (hval 1 24 v1 rfl rfl) h1
  obtain ⟨a1, rfl⟩ : ∃ a : Nat, z1 = (a : Int) := ⟨z1.toNat, by have := wf_u640 w1; omega⟩
  clear hA0 hval0
  simp only [List.append_nil] at hW'
  refine (walk a0 (wf_u64 w0) a1 (wf_u64 w1) W).mono fun e W' ⟨he, hg⟩ => ?_
  subst he
  exact ⟨_, rfl, post_of_same (pa := []) (pv := []) hW' (fun _ _ _ => (trodAll_cons_mk (shut_bool Try.underlying4 _) trodAll_mk0)) (fun sp _ => (trodAll_cons_mk (shut_int Try.underlying24 w0) (trodAll_cons_mk (shut_int Try.underlying24 w1) trodAll_mk0))) (fun _ _ => rfl) rfl
    (hg.frame _) hg.2.1 (ok_one (by kernel_rfl) rfl (okWide_bool_mk Try.underlying4 _))⟩

theorem over : Rows.fnCopysignBitsRow.holds Try.pinned (OpenSpec.ofChange Rows.fnCopysignBitsSpec) :=
  OpenClaim.holds_of_wide 7 Try.f7 rfl rfl rfl rfl rfl rfl rfl ⟨rfl, rfl, rfl, rfl, rfl⟩ rfl rfl rfl rfl rfl (by kernel_rfl) Try.func7 (by kernel_rfl)
    (of_decide_eq_true (by kernel_rfl)) (by unfold Func.isWrapper; first | (rw [if_pos (by decide +kernel)]; kernel_rfl) | (rw [if_neg (by decide +kernel)]; exact ⟨rfl, rfl⟩))
    (fun os started H enc _ => lifted os started H enc)

/-- the statement. -/
theorem proved : Rows.FnCopysignBitsSaid :=
  over
#print axioms proved
end Go.Proofs.Ytginlhkoeabjgaa.fnCopysignBits
