/-
  Sizes of products and of sums, as words: |x * y| is |x| * |y|, and |x + y| is at most |x| + |y|, rounded.
-/
import Derived.Test.YtjmmoimfdalekaaBas
namespace Go.Proofs.Ytjmmoimfdalekaa
open Ieee Num

theorem sg_abs (x : Nat) : sg Ieee.double (absW x) = false := by rw [sg64 (absW_lt64 x), sgW_abs]
theorem rg_abs (x : Nat) : rg Ieee.double (absW x) = rg Ieee.double x := by rw [rg64, rg64]; unfold absW; rw [Nat.mod_mod]

/-- a datum without its sign -/
def plus : Datum → Datum
  | .number _ m p => .number false m p
  | .infinity _ => .infinity false
  | .nan _ t => .nan false t

theorem read_abs (x : Nat) : Ieee.double.read (absW x) = plus (Ieee.double.read x) := by
  rw [read_eq _ dbl_e, read_eq _ dbl_e, sg_abs, rg_abs]
  split
  · rfl
  · split <;> rfl

theorem write_plus (d : Datum) (h : d.isNaN = false) : Ieee.double.write (plus d) = absW (Ieee.double.write d) := by
  cases d with
  | number s m p =>
    show Ieee.double.nearest false m p = absW (Ieee.double.nearest s m p)
    rw [nearest_eq, nearest_eq]
    obtain ⟨k, hk⟩ : ∃ k, k = min (rnd Ieee.double.fractionBits (m * 2 ^ (p - Ieee.double.leastPlace).toNat) (Ieee.double.leastPlace - p).toNat) Ieee.double.infRung := ⟨_, rfl⟩
    rw [← hk]
    have hle : k ≤ 9218868437227405312 := by rw [hk, dbl_inf]; exact Nat.min_le_right _ _
    show wd false k = absW (wd s k)
    rw [wd_abs hle, wd_eq]
    rfl
  | infinity s =>
    have hle : Ieee.double.infRung ≤ 9218868437227405312 := by rw [dbl_inf]; exact Nat.le_refl _
    show wd false Ieee.double.infRung = absW (wd s Ieee.double.infRung)
    rw [wd_abs hle, wd_eq]
    rfl
  | nan s t => cases h

theorem mul_abs {x y : Nat} (_hx : x < 18446744073709551616) (_hy : y < 18446744073709551616) : Ieee.double.mul (absW x) (absW y) = (Ieee.double.mul x y).map absW := by
  unfold Format.mul
  rw [read_abs, read_abs]
  cases hrx : Ieee.double.read x <;> cases hry : Ieee.double.read y <;> simp only [Datum.product, plus, Option.map_some, Option.map_none]
  · rename_i s m p t n q
    have := write_plus (.number (s ^^ t) (m * n) (p + q)) rfl
    simpa [plus] using this
  · rename_i s m p t
    split
    · rfl
    · have := write_plus (.infinity (t ^^ s)) rfl
      simpa [plus] using this
  · rename_i s t n q
    split
    · rfl
    · have := write_plus (.infinity (s ^^ t)) rfl
      simpa [plus] using this
  · rename_i s t
    have := write_plus (.infinity (s ^^ t)) rfl
    simpa [plus] using this

theorem sv_abs (x : Nat) : sv Ieee.double (absW x) = ((sv Ieee.double x).natAbs : Int) := by
  unfold sv
  rw [sg_abs, rg_abs]
  cases sg Ieee.double x <;> simp

theorem sumWord_form (s t : Bool) (u v : Int) : sumWord Ieee.double s t u v = wd (if u + v = 0 then s && t else decide (u + v < 0)) (min (rnd 52 (u + v).natAbs 0) 9218868437227405312) := by
  unfold sumWord
  rw [dbl_inf]
  rfl

theorem min_mono {a b c : Nat} (h : a ≤ b) : min a c ≤ min b c := by omega

theorem inf_word : Ieee.double.write (.infinity false) = 9218868437227405312 := by decide +kernel

theorem add_abs {x y r : Nat} (_hx : x < 18446744073709551616) (_hy : y < 18446744073709551616) (h : Ieee.double.add x y = some r) :
    ∃ r2, Ieee.double.add (absW x) (absW y) = some r2 ∧ (FloatKind.f64.format.order (absW r) r2 = some .lt ∨ FloatKind.f64.format.order (absW r) r2 = some .eq) := by
  by_cases fx : rg Ieee.double x < Ieee.double.infRung ∧ rg Ieee.double y < Ieee.double.infRung
  · have gx : rg Ieee.double (absW x) < Ieee.double.infRung := by rw [rg_abs]; exact fx.1
    have gy : rg Ieee.double (absW y) < Ieee.double.infRung := by rw [rg_abs]; exact fx.2
    refine ⟨_, add_fin dbl_e gx gy, ?_⟩
    rw [add_fin dbl_e fx.1 fx.2] at h
    cases h
    rw [sg_abs, sg_abs, sv_abs, sv_abs, sumWord_form, sumWord_form]
    obtain ⟨u, hu⟩ : ∃ u, u = sv Ieee.double x := ⟨_, rfl⟩
    obtain ⟨v, hv⟩ : ∃ v, v = sv Ieee.double y := ⟨_, rfl⟩
    rw [← hu, ← hv, wd_abs (Nat.min_le_right _ _)]
    have e : (if (u.natAbs : Int) + (v.natAbs : Int) = 0 then false && false else decide ((u.natAbs : Int) + (v.natAbs : Int) < 0)) = false := by
      split
      · rfl
      · simp only [decide_eq_false_iff_not]; omega
    rw [e, wd_eq]
    simp only [Bool.false_eq_true, if_false]
    refine ord_le (Nat.min_le_right _ _) (Nat.min_le_right _ _) (min_mono ?_)
    exact rnd_mono_same 52 0 (n := (u + v).natAbs) (m := ((u.natAbs : Int) + (v.natAbs : Int)).natAbs) (by omega)
  · unfold Format.add at h ⊢
    rw [read_abs, read_abs]
    obtain ⟨d, hd, hr⟩ := Option.map_eq_some_iff.1 h
    have key : (plus (Ieee.double.read x)).sum (plus (Ieee.double.read y)) = some (.infinity false) ∧ ∃ s, d = .infinity s := by
      cases hrx : Ieee.double.read x <;> cases hry : Ieee.double.read y <;> rw [hrx, hry] at hd <;> simp only [Datum.sum, reduceCtorEq] at hd
      · exfalso
        apply fx
        constructor
        · apply Nat.lt_of_not_le
          intro hle
          rw [read_eq _ dbl_e, if_neg (by omega)] at hrx
          split at hrx <;> cases hrx
        · apply Nat.lt_of_not_le
          intro hle
          rw [read_eq _ dbl_e, if_neg (by omega)] at hry
          split at hry <;> cases hry
      · cases hd; exact ⟨rfl, _, rfl⟩
      · cases hd; exact ⟨rfl, _, rfl⟩
      · split at hd
        · cases hd; exact ⟨rfl, _, rfl⟩
        · cases hd
    obtain ⟨k1, s, rfl⟩ := key
    rw [k1]
    refine ⟨_, rfl, ?_⟩
    have e : absW r = Ieee.double.write (.infinity false) := by rw [← hr]; exact (write_plus (.infinity s) rfl).symm
    rw [e, inf_word]
    exact ord_le (a := 9218868437227405312) (b := 9218868437227405312) (Nat.le_refl _) (Nat.le_refl _) (Nat.le_refl _)
end Go.Proofs.Ytjmmoimfdalekaa
