/-
  No cell of these rows narrows 'for every input' (looked for: loops, veiled, ifaces, maps, wideKeys, modest, calm, conditions, laid).
  DERIVED. THE GIVEN ROWS OF THIS SEAT. 12 by the template 'for every input the law returns true; each argument reads behind the call as it read before'; 0 by the template 'total and deterministic' (their statements: YtjmmoimfdalekaaTotals.lean).
  GIVEN WITH THE SEED: the statements are not yours to turn. If you find one false, say at which input.
  Laid BY PROGRAM, IN A SANDBOX (cutbox-rows.mjs): the forced cells as the released guide's own fill.sh prints them over the translation c7ca0ad912548014… (all of the seat's roots in one cut). By AI agents, Wed Nov 11 2026. No macro, syntax, notation, axiom, sorry.
-/
import Derived.Test.YtjmmoimfdalekaaChecked
import GoSem.Claim
import GoSem.ClaimJoined
import GoSem.ClaimMapViews
import Derived.JoinedTies
import Derived.KernelRfl
namespace Go.Proofs.Ytjmmoimfdalekaa
/- THE CELL 'sum', in the pinned program and in every row, IS THE sha256 OF THE DUMP (.gsa) THAT YtjmmoimfdalekaaProg.lean LOADS. Nothing in Lean hashes anything: it is a label: what it is worth is what the hold of that sum in a sandbox is worth. -/
noncomputable def Try.pinned : Pinned := { name := "ytjmmoimfdalekaa", sum := "c7ca0ad912548014068477ec2db4a40cc3c3752e97b95be6e158e44a012057ce", checked := Try.checked }
namespace Rows
def none {H : Type} : Left H := { results := [], args := [] }

/-- 'laws.FnExactSignbit': WHATEVER THE INPUT: true; the input reads as it did. -/
def fnExactSignbitSpec : ChangeSpec := { name := "fnExactSignbit", fn := fun _ => fun
  | [d] => { results := [.lit (.bool true)], args := [d] }
  | _ => none }
def fnExactSignbitRow : OpenClaim := { program := "ytjmmoimfdalekaa", sum := "c7ca0ad912548014068477ec2db4a40cc3c3752e97b95be6e158e44a012057ce", func := "loop.example/lib-floatforms/laws.FnExactSignbit", spec := "fnExactSignbit", inPlace := ["math.Float64bits"], apart := false }
def FnExactSignbitSaid : Prop := fnExactSignbitRow.holds Try.pinned (OpenSpec.ofChange fnExactSignbitSpec)

/-- ITS FALSE NEIGHBOUR: 'it returns false'. Refute it at one input. -/
def fnExactSignbitWrong : ChangeSpec := { name := "fnExactSignbit", fn := fun _ => fun
  | [d] => { results := [.lit (.bool false)], args := [d] }
  | _ => none }
def FnExactSignbitWrongFalsely : Prop := fnExactSignbitRow.holds Try.pinned (OpenSpec.ofChange fnExactSignbitWrong)

/-- 'laws.FnSignbitOther': WHATEVER THE INPUT: true; the input reads as it did. -/
def fnSignbitOtherSpec : ChangeSpec := { name := "fnSignbitOther", fn := fun _ => fun
  | [d] => { results := [.lit (.bool true)], args := [d] }
  | _ => none }
def fnSignbitOtherRow : OpenClaim := { program := "ytjmmoimfdalekaa", sum := "c7ca0ad912548014068477ec2db4a40cc3c3752e97b95be6e158e44a012057ce", func := "loop.example/lib-floatforms/laws.FnSignbitOther", spec := "fnSignbitOther", inPlace := ["math.Float64bits"], apart := false }
def FnSignbitOtherSaid : Prop := fnSignbitOtherRow.holds Try.pinned (OpenSpec.ofChange fnSignbitOtherSpec)

/-- ITS FALSE NEIGHBOUR: 'it returns false'. Refute it at one input. -/
def fnSignbitOtherWrong : ChangeSpec := { name := "fnSignbitOther", fn := fun _ => fun
  | [d] => { results := [.lit (.bool false)], args := [d] }
  | _ => none }
def FnSignbitOtherWrongFalsely : Prop := fnSignbitOtherRow.holds Try.pinned (OpenSpec.ofChange fnSignbitOtherWrong)

/-- 'laws.FnSignbitTimes': WHATEVER THE INPUT: true; the input reads as it did. -/
def fnSignbitTimesSpec : ChangeSpec := { name := "fnSignbitTimes", fn := fun _ => fun
  | [d1, d2] => { results := [.lit (.bool true)], args := [d1, d2] }
  | _ => none }
def fnSignbitTimesRow : OpenClaim := { program := "ytjmmoimfdalekaa", sum := "c7ca0ad912548014068477ec2db4a40cc3c3752e97b95be6e158e44a012057ce", func := "loop.example/lib-floatforms/laws.FnSignbitTimes", spec := "fnSignbitTimes", inPlace := ["math.Float64bits"], apart := false }
def FnSignbitTimesSaid : Prop := fnSignbitTimesRow.holds Try.pinned (OpenSpec.ofChange fnSignbitTimesSpec)

/-- ITS FALSE NEIGHBOUR: 'it returns false'. Refute it at one input. -/
def fnSignbitTimesWrong : ChangeSpec := { name := "fnSignbitTimes", fn := fun _ => fun
  | [d1, d2] => { results := [.lit (.bool false)], args := [d1, d2] }
  | _ => none }
def FnSignbitTimesWrongFalsely : Prop := fnSignbitTimesRow.holds Try.pinned (OpenSpec.ofChange fnSignbitTimesWrong)

/-- 'laws.FnAbsSum': WHATEVER THE INPUT: true; the input reads as it did. -/
def fnAbsSumSpec : ChangeSpec := { name := "fnAbsSum", fn := fun _ => fun
  | [d1, d2] => { results := [.lit (.bool true)], args := [d1, d2] }
  | _ => none }
def fnAbsSumRow : OpenClaim := { program := "ytjmmoimfdalekaa", sum := "c7ca0ad912548014068477ec2db4a40cc3c3752e97b95be6e158e44a012057ce", func := "loop.example/lib-floatforms/laws.FnAbsSum", spec := "fnAbsSum", inPlace := ["math.Float64bits", "math.Float64frombits"], apart := false }
def FnAbsSumSaid : Prop := fnAbsSumRow.holds Try.pinned (OpenSpec.ofChange fnAbsSumSpec)

/-- ITS FALSE NEIGHBOUR: 'it returns false'. Refute it at one input. -/
def fnAbsSumWrong : ChangeSpec := { name := "fnAbsSum", fn := fun _ => fun
  | [d1, d2] => { results := [.lit (.bool false)], args := [d1, d2] }
  | _ => none }
def FnAbsSumWrongFalsely : Prop := fnAbsSumRow.holds Try.pinned (OpenSpec.ofChange fnAbsSumWrong)

/-- 'laws.FnAbsTimes': WHATEVER THE INPUT: true; the input reads as it did. -/
def fnAbsTimesSpec : ChangeSpec := { name := "fnAbsTimes", fn := fun _ => fun
  | [d1, d2] => { results := [.lit (.bool true)], args := [d1, d2] }
  | _ => none }
def fnAbsTimesRow : OpenClaim := { program := "ytjmmoimfdalekaa", sum := "c7ca0ad912548014068477ec2db4a40cc3c3752e97b95be6e158e44a012057ce", func := "loop.example/lib-floatforms/laws.FnAbsTimes", spec := "fnAbsTimes", inPlace := ["math.Float64bits", "math.Float64frombits"], apart := false }
def FnAbsTimesSaid : Prop := fnAbsTimesRow.holds Try.pinned (OpenSpec.ofChange fnAbsTimesSpec)

/-- ITS FALSE NEIGHBOUR: 'it returns false'. Refute it at one input. -/
def fnAbsTimesWrong : ChangeSpec := { name := "fnAbsTimes", fn := fun _ => fun
  | [d1, d2] => { results := [.lit (.bool false)], args := [d1, d2] }
  | _ => none }
def FnAbsTimesWrongFalsely : Prop := fnAbsTimesRow.holds Try.pinned (OpenSpec.ofChange fnAbsTimesWrong)

/-- 'laws.FnAbsTwice': WHATEVER THE INPUT: true; the input reads as it did. -/
def fnAbsTwiceSpec : ChangeSpec := { name := "fnAbsTwice", fn := fun _ => fun
  | [d] => { results := [.lit (.bool true)], args := [d] }
  | _ => none }
def fnAbsTwiceRow : OpenClaim := { program := "ytjmmoimfdalekaa", sum := "c7ca0ad912548014068477ec2db4a40cc3c3752e97b95be6e158e44a012057ce", func := "loop.example/lib-floatforms/laws.FnAbsTwice", spec := "fnAbsTwice", inPlace := ["math.Float64bits", "math.Float64frombits"], apart := false }
def FnAbsTwiceSaid : Prop := fnAbsTwiceRow.holds Try.pinned (OpenSpec.ofChange fnAbsTwiceSpec)

/-- ITS FALSE NEIGHBOUR: 'it returns false'. Refute it at one input. -/
def fnAbsTwiceWrong : ChangeSpec := { name := "fnAbsTwice", fn := fun _ => fun
  | [d] => { results := [.lit (.bool false)], args := [d] }
  | _ => none }
def FnAbsTwiceWrongFalsely : Prop := fnAbsTwiceRow.holds Try.pinned (OpenSpec.ofChange fnAbsTwiceWrong)

/-- 'laws.FnExactAbs': WHATEVER THE INPUT: true; the input reads as it did. -/
def fnExactAbsSpec : ChangeSpec := { name := "fnExactAbs", fn := fun _ => fun
  | [d] => { results := [.lit (.bool true)], args := [d] }
  | _ => none }
def fnExactAbsRow : OpenClaim := { program := "ytjmmoimfdalekaa", sum := "c7ca0ad912548014068477ec2db4a40cc3c3752e97b95be6e158e44a012057ce", func := "loop.example/lib-floatforms/laws.FnExactAbs", spec := "fnExactAbs", inPlace := ["math.Float64bits", "math.Float64frombits"], apart := false }
def FnExactAbsSaid : Prop := fnExactAbsRow.holds Try.pinned (OpenSpec.ofChange fnExactAbsSpec)

/-- ITS FALSE NEIGHBOUR: 'it returns false'. Refute it at one input. -/
def fnExactAbsWrong : ChangeSpec := { name := "fnExactAbs", fn := fun _ => fun
  | [d] => { results := [.lit (.bool false)], args := [d] }
  | _ => none }
def FnExactAbsWrongFalsely : Prop := fnExactAbsRow.holds Try.pinned (OpenSpec.ofChange fnExactAbsWrong)

/-- 'laws.FnExactAbsZero': WHATEVER THE INPUT: true; the input reads as it did. -/
def fnExactAbsZeroSpec : ChangeSpec := { name := "fnExactAbsZero", fn := fun _ => fun
  | [d] => { results := [.lit (.bool true)], args := [d] }
  | _ => none }
def fnExactAbsZeroRow : OpenClaim := { program := "ytjmmoimfdalekaa", sum := "c7ca0ad912548014068477ec2db4a40cc3c3752e97b95be6e158e44a012057ce", func := "loop.example/lib-floatforms/laws.FnExactAbsZero", spec := "fnExactAbsZero", inPlace := ["math.Float64bits", "math.Float64frombits"], apart := false }
def FnExactAbsZeroSaid : Prop := fnExactAbsZeroRow.holds Try.pinned (OpenSpec.ofChange fnExactAbsZeroSpec)

/-- ITS FALSE NEIGHBOUR: 'it returns false'. Refute it at one input. -/
def fnExactAbsZeroWrong : ChangeSpec := { name := "fnExactAbsZero", fn := fun _ => fun
  | [d] => { results := [.lit (.bool false)], args := [d] }
  | _ => none }
def FnExactAbsZeroWrongFalsely : Prop := fnExactAbsZeroRow.holds Try.pinned (OpenSpec.ofChange fnExactAbsZeroWrong)

/-- 'laws.FnExactCopysign': WHATEVER THE INPUT: true; the input reads as it did. -/
def fnExactCopysignSpec : ChangeSpec := { name := "fnExactCopysign", fn := fun _ => fun
  | [d1, d2] => { results := [.lit (.bool true)], args := [d1, d2] }
  | _ => none }
def fnExactCopysignRow : OpenClaim := { program := "ytjmmoimfdalekaa", sum := "c7ca0ad912548014068477ec2db4a40cc3c3752e97b95be6e158e44a012057ce", func := "loop.example/lib-floatforms/laws.FnExactCopysign", spec := "fnExactCopysign", inPlace := ["math.Float64bits", "math.Float64frombits"], apart := false }
def FnExactCopysignSaid : Prop := fnExactCopysignRow.holds Try.pinned (OpenSpec.ofChange fnExactCopysignSpec)

/-- ITS FALSE NEIGHBOUR: 'it returns false'. Refute it at one input. -/
def fnExactCopysignWrong : ChangeSpec := { name := "fnExactCopysign", fn := fun _ => fun
  | [d1, d2] => { results := [.lit (.bool false)], args := [d1, d2] }
  | _ => none }
def FnExactCopysignWrongFalsely : Prop := fnExactCopysignRow.holds Try.pinned (OpenSpec.ofChange fnExactCopysignWrong)

/-- 'laws.FnExactCopysignNone': WHATEVER THE INPUT: true; the input reads as it did. -/
def fnExactCopysignNoneSpec : ChangeSpec := { name := "fnExactCopysignNone", fn := fun _ => fun
  | [d1, d2] => { results := [.lit (.bool true)], args := [d1, d2] }
  | _ => none }
def fnExactCopysignNoneRow : OpenClaim := { program := "ytjmmoimfdalekaa", sum := "c7ca0ad912548014068477ec2db4a40cc3c3752e97b95be6e158e44a012057ce", func := "loop.example/lib-floatforms/laws.FnExactCopysignNone", spec := "fnExactCopysignNone", inPlace := ["math.Float64bits", "math.Float64frombits"], apart := false }
def FnExactCopysignNoneSaid : Prop := fnExactCopysignNoneRow.holds Try.pinned (OpenSpec.ofChange fnExactCopysignNoneSpec)

/-- ITS FALSE NEIGHBOUR: 'it returns false'. Refute it at one input. -/
def fnExactCopysignNoneWrong : ChangeSpec := { name := "fnExactCopysignNone", fn := fun _ => fun
  | [d1, d2] => { results := [.lit (.bool false)], args := [d1, d2] }
  | _ => none }
def FnExactCopysignNoneWrongFalsely : Prop := fnExactCopysignNoneRow.holds Try.pinned (OpenSpec.ofChange fnExactCopysignNoneWrong)

/-- 'laws.FnSignbitAll': WHATEVER THE INPUT: true; the input reads as it did. -/
def fnSignbitAllSpec : ChangeSpec := { name := "fnSignbitAll", fn := fun _ => fun
  | [d] => { results := [.lit (.bool true)], args := [d] }
  | _ => none }
def fnSignbitAllRow : OpenClaim := { program := "ytjmmoimfdalekaa", sum := "c7ca0ad912548014068477ec2db4a40cc3c3752e97b95be6e158e44a012057ce", func := "loop.example/lib-floatforms/laws.FnSignbitAll", spec := "fnSignbitAll", inPlace := ["math.Float64frombits", "math.Float64bits"], apart := false }
def FnSignbitAllSaid : Prop := fnSignbitAllRow.holds Try.pinned (OpenSpec.ofChange fnSignbitAllSpec)

/-- ITS FALSE NEIGHBOUR: 'it returns false'. Refute it at one input. -/
def fnSignbitAllWrong : ChangeSpec := { name := "fnSignbitAll", fn := fun _ => fun
  | [d] => { results := [.lit (.bool false)], args := [d] }
  | _ => none }
def FnSignbitAllWrongFalsely : Prop := fnSignbitAllRow.holds Try.pinned (OpenSpec.ofChange fnSignbitAllWrong)

/-- 'laws.FnSignbitBits': WHATEVER THE INPUT: true; the input reads as it did. -/
def fnSignbitBitsSpec : ChangeSpec := { name := "fnSignbitBits", fn := fun _ => fun
  | [d] => { results := [.lit (.bool true)], args := [d] }
  | _ => none }
def fnSignbitBitsRow : OpenClaim := { program := "ytjmmoimfdalekaa", sum := "c7ca0ad912548014068477ec2db4a40cc3c3752e97b95be6e158e44a012057ce", func := "loop.example/lib-floatforms/laws.FnSignbitBits", spec := "fnSignbitBits", inPlace := ["math.Float64frombits", "math.Float64bits"], apart := false }
def FnSignbitBitsSaid : Prop := fnSignbitBitsRow.holds Try.pinned (OpenSpec.ofChange fnSignbitBitsSpec)

/-- ITS FALSE NEIGHBOUR: 'it returns false'. Refute it at one input. -/
def fnSignbitBitsWrong : ChangeSpec := { name := "fnSignbitBits", fn := fun _ => fun
  | [d] => { results := [.lit (.bool false)], args := [d] }
  | _ => none }
def FnSignbitBitsWrongFalsely : Prop := fnSignbitBitsRow.holds Try.pinned (OpenSpec.ofChange fnSignbitBitsWrong)

/- THE SECOND FORM. 'bulk': how many values and letters a reading holds, each counted each time it is reached (what is shared counts as often as it is met; a slice's spare places count too). A statement '..UptoSaid' is the law's where the arguments, and the package variables that the reading takes, are together of bulk at most 1048576: NARROWER than '..Said'. Prove '..Said' where nothing that the law and all that it calls make is longer than what came in: it says more and counts as full. Else prove '..UptoSaid'. A law counts once. -/
mutual
def uptoBulk {H : Type} : DataW H → Nat
  | .lit (.string bytes) => bytes.length + 1
  | .lit _ => 1
  | .nil => 1
  | .ptr d => uptoBulk d + 1
  | .slice elems spare => uptoBulkAll elems + uptoBulkAll spare + 1
  | .agg parts => uptoBulkAll parts + 1
  | .iface _ d => uptoBulk d + 1
  | .map entries => uptoBulkEntries entries + 1
  | .held _ => 1
def uptoBulkAll {H : Type} : List (DataW H) → Nat
  | [] => 0
  | d :: r => uptoBulk d + uptoBulkAll r
def uptoBulkEntries {H : Type} : List (Lit × DataW H) → Nat
  | [] => 0
  | x :: r => uptoBulkEntry x + uptoBulkEntries r
def uptoBulkEntry {H : Type} : Lit × DataW H → Nat
  | (.string bytes, d) => bytes.length + uptoBulk d + 1
  | (_, d) => uptoBulk d + 1
 end
def uptoSmall : (H : Type) → List (DataW H) → Bool := fun _ ds => decide (uptoBulkAll ds ≤ 1048576)
def OpenSpec.upto (s : _root_.Go.ChangeSpec) : _root_.Go.OpenSpec := { _root_.Go.OpenSpec.ofChange s with cond := some uptoSmall }

/-- 'laws.FnExactSignbit', WHERE WHAT IT READS IS OF BULK AT MOST 1048576: true; the input reads as it did. -/
def fnExactSignbitUptoRow : OpenClaim := { program := "ytjmmoimfdalekaa", sum := "c7ca0ad912548014068477ec2db4a40cc3c3752e97b95be6e158e44a012057ce", func := "loop.example/lib-floatforms/laws.FnExactSignbit", spec := "fnExactSignbit", inPlace := ["math.Float64bits"], apart := false, narrowed := true }
def FnExactSignbitUptoSaid : Prop := fnExactSignbitUptoRow.holds Try.pinned (OpenSpec.upto fnExactSignbitSpec)

/-- 'laws.FnSignbitOther', WHERE WHAT IT READS IS OF BULK AT MOST 1048576: true; the input reads as it did. -/
def fnSignbitOtherUptoRow : OpenClaim := { program := "ytjmmoimfdalekaa", sum := "c7ca0ad912548014068477ec2db4a40cc3c3752e97b95be6e158e44a012057ce", func := "loop.example/lib-floatforms/laws.FnSignbitOther", spec := "fnSignbitOther", inPlace := ["math.Float64bits"], apart := false, narrowed := true }
def FnSignbitOtherUptoSaid : Prop := fnSignbitOtherUptoRow.holds Try.pinned (OpenSpec.upto fnSignbitOtherSpec)

/-- 'laws.FnSignbitTimes', WHERE WHAT IT READS IS OF BULK AT MOST 1048576: true; the input reads as it did. -/
def fnSignbitTimesUptoRow : OpenClaim := { program := "ytjmmoimfdalekaa", sum := "c7ca0ad912548014068477ec2db4a40cc3c3752e97b95be6e158e44a012057ce", func := "loop.example/lib-floatforms/laws.FnSignbitTimes", spec := "fnSignbitTimes", inPlace := ["math.Float64bits"], apart := false, narrowed := true }
def FnSignbitTimesUptoSaid : Prop := fnSignbitTimesUptoRow.holds Try.pinned (OpenSpec.upto fnSignbitTimesSpec)

/-- 'laws.FnAbsSum', WHERE WHAT IT READS IS OF BULK AT MOST 1048576: true; the input reads as it did. -/
def fnAbsSumUptoRow : OpenClaim := { program := "ytjmmoimfdalekaa", sum := "c7ca0ad912548014068477ec2db4a40cc3c3752e97b95be6e158e44a012057ce", func := "loop.example/lib-floatforms/laws.FnAbsSum", spec := "fnAbsSum", inPlace := ["math.Float64bits", "math.Float64frombits"], apart := false, narrowed := true }
def FnAbsSumUptoSaid : Prop := fnAbsSumUptoRow.holds Try.pinned (OpenSpec.upto fnAbsSumSpec)

/-- 'laws.FnAbsTimes', WHERE WHAT IT READS IS OF BULK AT MOST 1048576: true; the input reads as it did. -/
def fnAbsTimesUptoRow : OpenClaim := { program := "ytjmmoimfdalekaa", sum := "c7ca0ad912548014068477ec2db4a40cc3c3752e97b95be6e158e44a012057ce", func := "loop.example/lib-floatforms/laws.FnAbsTimes", spec := "fnAbsTimes", inPlace := ["math.Float64bits", "math.Float64frombits"], apart := false, narrowed := true }
def FnAbsTimesUptoSaid : Prop := fnAbsTimesUptoRow.holds Try.pinned (OpenSpec.upto fnAbsTimesSpec)

/-- 'laws.FnAbsTwice', WHERE WHAT IT READS IS OF BULK AT MOST 1048576: true; the input reads as it did. -/
def fnAbsTwiceUptoRow : OpenClaim := { program := "ytjmmoimfdalekaa", sum := "c7ca0ad912548014068477ec2db4a40cc3c3752e97b95be6e158e44a012057ce", func := "loop.example/lib-floatforms/laws.FnAbsTwice", spec := "fnAbsTwice", inPlace := ["math.Float64bits", "math.Float64frombits"], apart := false, narrowed := true }
def FnAbsTwiceUptoSaid : Prop := fnAbsTwiceUptoRow.holds Try.pinned (OpenSpec.upto fnAbsTwiceSpec)

/-- 'laws.FnExactAbs', WHERE WHAT IT READS IS OF BULK AT MOST 1048576: true; the input reads as it did. -/
def fnExactAbsUptoRow : OpenClaim := { program := "ytjmmoimfdalekaa", sum := "c7ca0ad912548014068477ec2db4a40cc3c3752e97b95be6e158e44a012057ce", func := "loop.example/lib-floatforms/laws.FnExactAbs", spec := "fnExactAbs", inPlace := ["math.Float64bits", "math.Float64frombits"], apart := false, narrowed := true }
def FnExactAbsUptoSaid : Prop := fnExactAbsUptoRow.holds Try.pinned (OpenSpec.upto fnExactAbsSpec)

/-- 'laws.FnExactAbsZero', WHERE WHAT IT READS IS OF BULK AT MOST 1048576: true; the input reads as it did. -/
def fnExactAbsZeroUptoRow : OpenClaim := { program := "ytjmmoimfdalekaa", sum := "c7ca0ad912548014068477ec2db4a40cc3c3752e97b95be6e158e44a012057ce", func := "loop.example/lib-floatforms/laws.FnExactAbsZero", spec := "fnExactAbsZero", inPlace := ["math.Float64bits", "math.Float64frombits"], apart := false, narrowed := true }
def FnExactAbsZeroUptoSaid : Prop := fnExactAbsZeroUptoRow.holds Try.pinned (OpenSpec.upto fnExactAbsZeroSpec)

/-- 'laws.FnExactCopysign', WHERE WHAT IT READS IS OF BULK AT MOST 1048576: true; the input reads as it did. -/
def fnExactCopysignUptoRow : OpenClaim := { program := "ytjmmoimfdalekaa", sum := "c7ca0ad912548014068477ec2db4a40cc3c3752e97b95be6e158e44a012057ce", func := "loop.example/lib-floatforms/laws.FnExactCopysign", spec := "fnExactCopysign", inPlace := ["math.Float64bits", "math.Float64frombits"], apart := false, narrowed := true }
def FnExactCopysignUptoSaid : Prop := fnExactCopysignUptoRow.holds Try.pinned (OpenSpec.upto fnExactCopysignSpec)

/-- 'laws.FnExactCopysignNone', WHERE WHAT IT READS IS OF BULK AT MOST 1048576: true; the input reads as it did. -/
def fnExactCopysignNoneUptoRow : OpenClaim := { program := "ytjmmoimfdalekaa", sum := "c7ca0ad912548014068477ec2db4a40cc3c3752e97b95be6e158e44a012057ce", func := "loop.example/lib-floatforms/laws.FnExactCopysignNone", spec := "fnExactCopysignNone", inPlace := ["math.Float64bits", "math.Float64frombits"], apart := false, narrowed := true }
def FnExactCopysignNoneUptoSaid : Prop := fnExactCopysignNoneUptoRow.holds Try.pinned (OpenSpec.upto fnExactCopysignNoneSpec)

/-- 'laws.FnSignbitAll', WHERE WHAT IT READS IS OF BULK AT MOST 1048576: true; the input reads as it did. -/
def fnSignbitAllUptoRow : OpenClaim := { program := "ytjmmoimfdalekaa", sum := "c7ca0ad912548014068477ec2db4a40cc3c3752e97b95be6e158e44a012057ce", func := "loop.example/lib-floatforms/laws.FnSignbitAll", spec := "fnSignbitAll", inPlace := ["math.Float64frombits", "math.Float64bits"], apart := false, narrowed := true }
def FnSignbitAllUptoSaid : Prop := fnSignbitAllUptoRow.holds Try.pinned (OpenSpec.upto fnSignbitAllSpec)

/-- 'laws.FnSignbitBits', WHERE WHAT IT READS IS OF BULK AT MOST 1048576: true; the input reads as it did. -/
def fnSignbitBitsUptoRow : OpenClaim := { program := "ytjmmoimfdalekaa", sum := "c7ca0ad912548014068477ec2db4a40cc3c3752e97b95be6e158e44a012057ce", func := "loop.example/lib-floatforms/laws.FnSignbitBits", spec := "fnSignbitBits", inPlace := ["math.Float64frombits", "math.Float64bits"], apart := false, narrowed := true }
def FnSignbitBitsUptoSaid : Prop := fnSignbitBitsUptoRow.holds Try.pinned (OpenSpec.upto fnSignbitBitsSpec)

end Rows
end Go.Proofs.Ytjmmoimfdalekaa
