/-
  For all pairs of uint32 the law answers true: float32 comparison follows the bit patterns, reversed below zero.
  No condition: for every input of the parameter types.
-/
import Derived.Test.YtfjophnfjfphgaaBas
import Derived.Test.YtfjophnfjfphgaaSgl
import Derived.OpenShut
namespace Go.Proofs.Ytfjophnfjfphgaa.fnOrder32
open Ieee Num Go.RowKit Go.ChangeShapes Go.WideShapes Go.ChangeAt
set_option linter.unusedVariables false

theorem own : ownKnob Try.prog.godebug = none := by kernel_rfl

/-- the law returns true. -/
theorem walk (a0 : Nat) (w0 : a0 < 4294967296) (a1 : Nat) (w1 : a1 < 4294967296) (w : World) :
    Calls Try.prog 9 #[.int .u32 (a0 : Nat), .int .u32 (a1 : Nat)] w fun e w' => e = .returned (.bool true) ∧ Grown w w' := by
  have h2 := from32
  have o1 : FloatKind.f32.format.order 1 0 = some .gt := by decide +kernel
  by_cases hn : isN32 a0 = true
  · have h1 := ord32_nl a0 hn
    clear w0 w1 hn
    go_enter Try.func9, Try.ntmps9
    go_wp2
    go_ret
    exact ⟨rfl, Grown.refl _⟩
  · have hn : isN32 a0 = false := by simpa using hn
    have h1 := ord32_self w0 hn
    by_cases hm : isN32 a1 = true
    · have h3 := ord32_nl a1 hm
      clear w0 w1 hn hm
      go_enter Try.func9, Try.ntmps9
      go_wp2
      go_ret
      exact ⟨rfl, Grown.refl _⟩
    · have hm : isN32 a1 = false := by simpa using hm
      have h3 := ord32_self w1 hm
      by_cases hd : a0 / 2147483648 = a1 / 2147483648
      · have g : ((a0 : Int) / 2147483648 != (a1 : Int) / 2147483648) = false := by simp only [bne_eq_false_iff_eq]; omega
        by_cases ht : a0 / 2147483648 = 1
        · have g2 : ((a0 : Int) / 2147483648 == 1) = true := by simp only [beq_iff_eq]; omega
          rcases Nat.lt_trichotomy a0 a1 with hc | hc | hc
          · have q1 : ((a0 : Int) == (a1 : Int)) = false := by simp only [beq_eq_false_iff_ne, ne_eq]; omega
            have q2 : decide (a1 < a0) = false := by simp only [decide_eq_false_iff_not]; omega
            have q3 : decide (a0 < a1) = true := by simpa using hc
            have ho : FloatKind.f32.format.order a0 a1 = some .gt := by
              rw [ord32 w0 w1 hn hm, cmp_gt]
              unfold sr32
              rw [if_pos (by omega), if_pos (by omega)]
              omega
            clear w0 w1 hn hm hd ht hc
            go_enter Try.func9, Try.ntmps9
            go_wp2
            go_ret
            exact ⟨rfl, Grown.refl _⟩
          · subst hc
            clear w0 w1 hn hm hd ht
            go_enter Try.func9, Try.ntmps9
            go_wp2
            go_ret
            exact ⟨rfl, Grown.refl _⟩
          · have q1 : ((a0 : Int) == (a1 : Int)) = false := by simp only [beq_eq_false_iff_ne, ne_eq]; omega
            have q2 : decide (a0 < a1) = false := by simp only [decide_eq_false_iff_not]; omega
            have q3 : decide (a1 < a0) = true := by simpa using hc
            have ho : FloatKind.f32.format.order a0 a1 = some .lt := by
              rw [ord32 w0 w1 hn hm, cmp_lt]
              unfold sr32
              rw [if_pos (by omega), if_pos (by omega)]
              omega
            clear w0 w1 hn hm hd ht hc
            go_enter Try.func9, Try.ntmps9
            go_wp2
            go_ret
            exact ⟨rfl, Grown.refl _⟩
        · have g2 : ((a0 : Int) / 2147483648 == 1) = false := by simp only [beq_eq_false_iff_ne, ne_eq]; omega
          rcases Nat.lt_trichotomy a0 a1 with hc | hc | hc
          · have q1 : ((a0 : Int) == (a1 : Int)) = false := by simp only [beq_eq_false_iff_ne, ne_eq]; omega
            have q2 : decide (a1 < a0) = false := by simp only [decide_eq_false_iff_not]; omega
            have q3 : decide (a0 < a1) = true := by simpa using hc
            have ho : FloatKind.f32.format.order a0 a1 = some .lt := by
              rw [ord32 w0 w1 hn hm, cmp_lt]
              unfold sr32
              rw [if_neg (by omega), if_neg (by omega)]
              omega
            clear w0 w1 hn hm hd ht hc
            go_enter Try.func9, Try.ntmps9
            go_wp2
            go_ret
            exact ⟨rfl, Grown.refl _⟩
          · subst hc
            clear w0 w1 hn hm hd ht
            go_enter Try.func9, Try.ntmps9
            go_wp2
            go_ret
            exact ⟨rfl, Grown.refl _⟩
          · have q1 : ((a0 : Int) == (a1 : Int)) = false := by simp only [beq_eq_false_iff_ne, ne_eq]; omega
            have q2 : decide (a0 < a1) = false := by simp only [decide_eq_false_iff_not]; omega
            have q3 : decide (a1 < a0) = true := by simpa using hc
            have ho : FloatKind.f32.format.order a0 a1 = some .gt := by
              rw [ord32 w0 w1 hn hm, cmp_gt]
              unfold sr32
              rw [if_neg (by omega), if_neg (by omega)]
              omega
            clear w0 w1 hn hm hd ht hc
            go_enter Try.func9, Try.ntmps9
            go_wp2
            go_ret
            exact ⟨rfl, Grown.refl _⟩
      · have g : ((a0 : Int) / 2147483648 != (a1 : Int) / 2147483648) = true := by simp only [bne_iff_ne, ne_eq]; omega
        clear w0 w1 hn hm hd
        go_enter Try.func9, Try.ntmps9
        go_wp2
        go_ret
        exact ⟨rfl, Grown.refl _⟩

set_option maxRecDepth 100000 in
theorem lifted (os : Os) (started : os.Started) (H : Type) (enc : TypeId × Value → H) :
    ReturnsInHanded {} Try.checked os 9 .any (Rows.fnOrder32Spec.pre6 enc Try.prog Try.f9 Rows.fnOrder32Row.domain false) (Rows.fnOrder32Spec.post enc Try.prog Try.f9 false true false false) := by
  refine returnsInHanded_of_change (C := Try.checked) own started (by kernel_rfl) Try.func9
    (ChangeSpec.witness6 (enc := enc) (C := Try.checked) false ⟨#[], #[.int .u32 0, .int .u32 0], []⟩ 8 (by kernel_rfl) (by kernel_rfl) (by kernel_rfl) (by kernel_rfl)) ?_
  intro W base args ds gs before hval0 hW hcnd _
  have hval : ∀ (j : Nat) t v, Try.f9.params[j]? = some t → args[j]? = some v → Value.okWide Try.prog W .any base t v := hval0
  have hW' := hW
  obtain ⟨p, q, hA0, hV, rfl, hfz, hnd⟩ := hW
  have hA : DataW.TrodAll enc Try.prog W 0 (fun _ => true) true Try.f9.params.toList args.toList ds p := hA0
  rw [Try.params9] at hA hval
  obtain ⟨v0, vs0, d0, ds0, p0, q0, hargs, rfl, rfl, h0, r0⟩ := trodAll_cons hA
  obtain ⟨v1, vs1, d1, ds1, p1, q1, rfl, rfl, rfl, h1, r1⟩ := trodAll_cons r0
  obtain ⟨rfl, rfl, rfl⟩ := trodAll_nil r1
  obtain rfl : args = #[v0, v1] := by cases args; simp_all
  obtain ⟨rfl, rfl⟩ := trodVars_none hV
  obtain ⟨z0, rfl, rfl, rfl, w0⟩ := open_int Try.underlying23 (hval 0 23 v0 rfl rfl) h0
  obtain ⟨a0, rfl⟩ : ∃ a : Nat, z0 = (a : Int) := ⟨z0.toNat, by have := wf_u320 w0; omega⟩
  obtain ⟨z1, rfl, rfl, rfl, w1⟩ := open_int Try.underlying23 (hval 1 23 v1 rfl rfl) h1
  obtain ⟨a1, rfl⟩ : ∃ a : Nat, z1 = (a : Int) := ⟨z1.toNat, by have := wf_u320 w1; omega⟩
  clear hA0 hval0
  simp only [List.append_nil] at hW'
  refine (walk a0 (wf_u32 w0) a1 (wf_u32 w1) W).mono fun e W' ⟨he, hg⟩ => ?_
  subst he
  exact ⟨_, rfl, post_of_same (pa := []) (pv := []) hW' (fun _ _ _ => (trodAll_cons_mk (shut_bool Try.underlying4 _) trodAll_mk0)) (fun sp _ => (trodAll_cons_mk (shut_int Try.underlying23 w0) (trodAll_cons_mk (shut_int Try.underlying23 w1) trodAll_mk0))) (fun _ _ => rfl) rfl
    (hg.frame _) hg.2.1 (ok_one (by kernel_rfl) rfl (okWide_bool_mk Try.underlying4 _))⟩

theorem over : Rows.fnOrder32Row.holds Try.pinned (OpenSpec.ofChange Rows.fnOrder32Spec) :=
  OpenClaim.holds_of_wide 9 Try.f9 rfl rfl rfl rfl rfl rfl rfl ⟨rfl, rfl, rfl, rfl, rfl⟩ rfl rfl rfl rfl rfl (by kernel_rfl) Try.func9 (by kernel_rfl)
    (of_decide_eq_true (by kernel_rfl)) (by unfold Func.isWrapper; first | (rw [if_pos (by decide +kernel)]; kernel_rfl) | (rw [if_neg (by decide +kernel)]; exact ⟨rfl, rfl⟩))
    (fun os started H enc _ => lifted os started H enc)

/-- the statement. -/
theorem proved : Rows.FnOrder32Said :=
  over
#print axioms proved
end Go.Proofs.Ytfjophnfjfphgaa.fnOrder32
