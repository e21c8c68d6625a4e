/-
  No cell of these rows narrows 'for every input' (looked for: loops, veiled, ifaces, maps, wideKeys, modest, calm, conditions, laid).
  DERIVED. THE GIVEN ROWS OF THIS SEAT. 12 by the template 'for every input the law returns true; each argument reads behind the call as it read before'; 0 by the template 'total and deterministic' (their statements: YtalcfefnkjmdaaaTotals.lean).
  GIVEN WITH THE SEED: the statements are not yours to turn. If you find one false, say at which input.
  Laid BY PROGRAM, IN A SANDBOX (cutbox-rows.mjs): the forced cells as the released guide's own fill.sh prints them over the translation 085ff3649da0dfa9… (all of the seat's roots in one cut). By AI agents, Wed Nov 11 2026. No macro, syntax, notation, axiom, sorry.
-/
import Derived.Test.YtalcfefnkjmdaaaChecked
import GoSem.Claim
import GoSem.ClaimJoined
import GoSem.ClaimMapViews
import Derived.JoinedTies
import Derived.KernelRfl
namespace Go.Proofs.Ytalcfefnkjmdaaa
/- THE CELL 'sum', in the pinned program and in every row, IS THE sha256 OF THE DUMP (.gsa) THAT YtalcfefnkjmdaaaProg.lean LOADS. Nothing in Lean hashes anything: it is a label: what it is worth is what the hold of that sum in a sandbox is worth. -/
noncomputable def Try.pinned : Pinned := { name := "ytalcfefnkjmdaaa", sum := "085ff3649da0dfa91de297f12575d5655475583422bd81b72259d47d56144bd8", checked := Try.checked }
namespace Rows
def none {H : Type} : Left H := { results := [], args := [] }

/-- 'laws.FnLogbRoads': WHATEVER THE INPUT: true; the input reads as it did. -/
def fnLogbRoadsSpec : ChangeSpec := { name := "fnLogbRoads", fn := fun _ => fun
  | [d] => { results := [.lit (.bool true)], args := [d] }
  | _ => none }
def fnLogbRoadsRow : OpenClaim := { program := "ytalcfefnkjmdaaa", sum := "085ff3649da0dfa91de297f12575d5655475583422bd81b72259d47d56144bd8", func := "loop.example/lib-floatforms/laws.FnLogbRoads", spec := "fnLogbRoads", inPlace := ["math.Float64bits", "math.Float64frombits"], apart := false }
def FnLogbRoadsSaid : Prop := fnLogbRoadsRow.holds Try.pinned (OpenSpec.ofChange fnLogbRoadsSpec)

/-- ITS FALSE NEIGHBOUR: 'it returns false'. Refute it at one input. -/
def fnLogbRoadsWrong : ChangeSpec := { name := "fnLogbRoads", fn := fun _ => fun
  | [d] => { results := [.lit (.bool false)], args := [d] }
  | _ => none }
def FnLogbRoadsWrongFalsely : Prop := fnLogbRoadsRow.holds Try.pinned (OpenSpec.ofChange fnLogbRoadsWrong)

/-- 'laws.FnExactLog2': WHATEVER THE INPUT: true; the input reads as it did. -/
def fnExactLog2Spec : ChangeSpec := { name := "fnExactLog2", fn := fun _ => fun
  | [d] => { results := [.lit (.bool true)], args := [d] }
  | _ => none }
def fnExactLog2Row : OpenClaim := { program := "ytalcfefnkjmdaaa", sum := "085ff3649da0dfa91de297f12575d5655475583422bd81b72259d47d56144bd8", func := "loop.example/lib-floatforms/laws.FnExactLog2", spec := "fnExactLog2", inPlace := ["math.Float64bits", "math.Float64frombits", "math.archLog"], apart := false }
def FnExactLog2Said : Prop := fnExactLog2Row.holds Try.pinned (OpenSpec.ofChange fnExactLog2Spec)

/-- ITS FALSE NEIGHBOUR: 'it returns false'. Refute it at one input. -/
def fnExactLog2Wrong : ChangeSpec := { name := "fnExactLog2", fn := fun _ => fun
  | [d] => { results := [.lit (.bool false)], args := [d] }
  | _ => none }
def FnExactLog2WrongFalsely : Prop := fnExactLog2Row.holds Try.pinned (OpenSpec.ofChange fnExactLog2Wrong)

/-- 'laws.FnLog2Power': WHATEVER THE INPUT: true; the input reads as it did. -/
def fnLog2PowerSpec : ChangeSpec := { name := "fnLog2Power", fn := fun _ => fun
  | [d] => { results := [.lit (.bool true)], args := [d] }
  | _ => none }
def fnLog2PowerRow : OpenClaim := { program := "ytalcfefnkjmdaaa", sum := "085ff3649da0dfa91de297f12575d5655475583422bd81b72259d47d56144bd8", func := "loop.example/lib-floatforms/laws.FnLog2Power", spec := "fnLog2Power", inPlace := ["math.Float64bits", "math.Float64frombits", "math.archLog"], apart := false }
def FnLog2PowerSaid : Prop := fnLog2PowerRow.holds Try.pinned (OpenSpec.ofChange fnLog2PowerSpec)

/-- ITS FALSE NEIGHBOUR: 'it returns false'. Refute it at one input. -/
def fnLog2PowerWrong : ChangeSpec := { name := "fnLog2Power", fn := fun _ => fun
  | [d] => { results := [.lit (.bool false)], args := [d] }
  | _ => none }
def FnLog2PowerWrongFalsely : Prop := fnLog2PowerRow.holds Try.pinned (OpenSpec.ofChange fnLog2PowerWrong)

/-- 'laws.FnExactIlogb': WHATEVER THE INPUT: true; the input reads as it did. -/
def fnExactIlogbSpec : ChangeSpec := { name := "fnExactIlogb", fn := fun _ => fun
  | [d] => { results := [.lit (.bool true)], args := [d] }
  | _ => none }
def fnExactIlogbRow : OpenClaim := { program := "ytalcfefnkjmdaaa", sum := "085ff3649da0dfa91de297f12575d5655475583422bd81b72259d47d56144bd8", func := "loop.example/lib-floatforms/laws.FnExactIlogb", spec := "fnExactIlogb", inPlace := ["math.Float64bits", "math.Float64frombits"], apart := false }
def FnExactIlogbSaid : Prop := fnExactIlogbRow.holds Try.pinned (OpenSpec.ofChange fnExactIlogbSpec)

/-- ITS FALSE NEIGHBOUR: 'it returns false'. Refute it at one input. -/
def fnExactIlogbWrong : ChangeSpec := { name := "fnExactIlogb", fn := fun _ => fun
  | [d] => { results := [.lit (.bool false)], args := [d] }
  | _ => none }
def FnExactIlogbWrongFalsely : Prop := fnExactIlogbRow.holds Try.pinned (OpenSpec.ofChange fnExactIlogbWrong)

/-- 'laws.FnExactIlogbSmall': WHATEVER THE INPUT: true; the input reads as it did. -/
def fnExactIlogbSmallSpec : ChangeSpec := { name := "fnExactIlogbSmall", fn := fun _ => fun
  | [d] => { results := [.lit (.bool true)], args := [d] }
  | _ => none }
def fnExactIlogbSmallRow : OpenClaim := { program := "ytalcfefnkjmdaaa", sum := "085ff3649da0dfa91de297f12575d5655475583422bd81b72259d47d56144bd8", func := "loop.example/lib-floatforms/laws.FnExactIlogbSmall", spec := "fnExactIlogbSmall", inPlace := ["math.Float64bits", "math.Float64frombits"], apart := false }
def FnExactIlogbSmallSaid : Prop := fnExactIlogbSmallRow.holds Try.pinned (OpenSpec.ofChange fnExactIlogbSmallSpec)

/-- ITS FALSE NEIGHBOUR: 'it returns false'. Refute it at one input. -/
def fnExactIlogbSmallWrong : ChangeSpec := { name := "fnExactIlogbSmall", fn := fun _ => fun
  | [d] => { results := [.lit (.bool false)], args := [d] }
  | _ => none }
def FnExactIlogbSmallWrongFalsely : Prop := fnExactIlogbSmallRow.holds Try.pinned (OpenSpec.ofChange fnExactIlogbSmallWrong)

/-- 'laws.FnLogbTimes': WHATEVER THE INPUT: true; the input reads as it did. -/
def fnLogbTimesSpec : ChangeSpec := { name := "fnLogbTimes", fn := fun _ => fun
  | [d1, d2] => { results := [.lit (.bool true)], args := [d1, d2] }
  | _ => none }
def fnLogbTimesRow : OpenClaim := { program := "ytalcfefnkjmdaaa", sum := "085ff3649da0dfa91de297f12575d5655475583422bd81b72259d47d56144bd8", func := "loop.example/lib-floatforms/laws.FnLogbTimes", spec := "fnLogbTimes", inPlace := ["math.Float64bits", "math.Float64frombits"], apart := false }
def FnLogbTimesSaid : Prop := fnLogbTimesRow.holds Try.pinned (OpenSpec.ofChange fnLogbTimesSpec)

/-- ITS FALSE NEIGHBOUR: 'it returns false'. Refute it at one input. -/
def fnLogbTimesWrong : ChangeSpec := { name := "fnLogbTimes", fn := fun _ => fun
  | [d1, d2] => { results := [.lit (.bool false)], args := [d1, d2] }
  | _ => none }
def FnLogbTimesWrongFalsely : Prop := fnLogbTimesRow.holds Try.pinned (OpenSpec.ofChange fnLogbTimesWrong)

/-- 'laws.FnLogbBits': WHATEVER THE INPUT: true; the input reads as it did. -/
def fnLogbBitsSpec : ChangeSpec := { name := "fnLogbBits", fn := fun _ => fun
  | [d] => { results := [.lit (.bool true)], args := [d] }
  | _ => none }
def fnLogbBitsRow : OpenClaim := { program := "ytalcfefnkjmdaaa", sum := "085ff3649da0dfa91de297f12575d5655475583422bd81b72259d47d56144bd8", func := "loop.example/lib-floatforms/laws.FnLogbBits", spec := "fnLogbBits", inPlace := ["math.Float64bits", "math.Float64frombits"], apart := false }
def FnLogbBitsSaid : Prop := fnLogbBitsRow.holds Try.pinned (OpenSpec.ofChange fnLogbBitsSpec)

/-- ITS FALSE NEIGHBOUR: 'it returns false'. Refute it at one input. -/
def fnLogbBitsWrong : ChangeSpec := { name := "fnLogbBits", fn := fun _ => fun
  | [d] => { results := [.lit (.bool false)], args := [d] }
  | _ => none }
def FnLogbBitsWrongFalsely : Prop := fnLogbBitsRow.holds Try.pinned (OpenSpec.ofChange fnLogbBitsWrong)

/-- 'laws.FnExactLogb': WHATEVER THE INPUT: true; the input reads as it did. -/
def fnExactLogbSpec : ChangeSpec := { name := "fnExactLogb", fn := fun _ => fun
  | [d] => { results := [.lit (.bool true)], args := [d] }
  | _ => none }
def fnExactLogbRow : OpenClaim := { program := "ytalcfefnkjmdaaa", sum := "085ff3649da0dfa91de297f12575d5655475583422bd81b72259d47d56144bd8", func := "loop.example/lib-floatforms/laws.FnExactLogb", spec := "fnExactLogb", inPlace := ["math.Float64frombits", "math.Float64bits"], apart := false }
def FnExactLogbSaid : Prop := fnExactLogbRow.holds Try.pinned (OpenSpec.ofChange fnExactLogbSpec)

/-- ITS FALSE NEIGHBOUR: 'it returns false'. Refute it at one input. -/
def fnExactLogbWrong : ChangeSpec := { name := "fnExactLogb", fn := fun _ => fun
  | [d] => { results := [.lit (.bool false)], args := [d] }
  | _ => none }
def FnExactLogbWrongFalsely : Prop := fnExactLogbRow.holds Try.pinned (OpenSpec.ofChange fnExactLogbWrong)

/-- 'laws.FnExactLogbSmall': WHATEVER THE INPUT: true; the input reads as it did. -/
def fnExactLogbSmallSpec : ChangeSpec := { name := "fnExactLogbSmall", fn := fun _ => fun
  | [d] => { results := [.lit (.bool true)], args := [d] }
  | _ => none }
def fnExactLogbSmallRow : OpenClaim := { program := "ytalcfefnkjmdaaa", sum := "085ff3649da0dfa91de297f12575d5655475583422bd81b72259d47d56144bd8", func := "loop.example/lib-floatforms/laws.FnExactLogbSmall", spec := "fnExactLogbSmall", inPlace := ["math.Float64frombits", "math.Float64bits"], apart := false }
def FnExactLogbSmallSaid : Prop := fnExactLogbSmallRow.holds Try.pinned (OpenSpec.ofChange fnExactLogbSmallSpec)

/-- ITS FALSE NEIGHBOUR: 'it returns false'. Refute it at one input. -/
def fnExactLogbSmallWrong : ChangeSpec := { name := "fnExactLogbSmall", fn := fun _ => fun
  | [d] => { results := [.lit (.bool false)], args := [d] }
  | _ => none }
def FnExactLogbSmallWrongFalsely : Prop := fnExactLogbSmallRow.holds Try.pinned (OpenSpec.ofChange fnExactLogbSmallWrong)

/-- 'laws.FnLogbBounds': WHATEVER THE INPUT: true; the input reads as it did. -/
def fnLogbBoundsSpec : ChangeSpec := { name := "fnLogbBounds", fn := fun _ => fun
  | [d] => { results := [.lit (.bool true)], args := [d] }
  | _ => none }
def fnLogbBoundsRow : OpenClaim := { program := "ytalcfefnkjmdaaa", sum := "085ff3649da0dfa91de297f12575d5655475583422bd81b72259d47d56144bd8", func := "loop.example/lib-floatforms/laws.FnLogbBounds", spec := "fnLogbBounds", inPlace := ["math.Float64frombits", "math.Float64bits"], apart := false }
def FnLogbBoundsSaid : Prop := fnLogbBoundsRow.holds Try.pinned (OpenSpec.ofChange fnLogbBoundsSpec)

/-- ITS FALSE NEIGHBOUR: 'it returns false'. Refute it at one input. -/
def fnLogbBoundsWrong : ChangeSpec := { name := "fnLogbBounds", fn := fun _ => fun
  | [d] => { results := [.lit (.bool false)], args := [d] }
  | _ => none }
def FnLogbBoundsWrongFalsely : Prop := fnLogbBoundsRow.holds Try.pinned (OpenSpec.ofChange fnLogbBoundsWrong)

/-- 'laws.FnLogbSign': WHATEVER THE INPUT: true; the input reads as it did. -/
def fnLogbSignSpec : ChangeSpec := { name := "fnLogbSign", fn := fun _ => fun
  | [d] => { results := [.lit (.bool true)], args := [d] }
  | _ => none }
def fnLogbSignRow : OpenClaim := { program := "ytalcfefnkjmdaaa", sum := "085ff3649da0dfa91de297f12575d5655475583422bd81b72259d47d56144bd8", func := "loop.example/lib-floatforms/laws.FnLogbSign", spec := "fnLogbSign", inPlace := ["math.Float64frombits", "math.Float64bits"], apart := false }
def FnLogbSignSaid : Prop := fnLogbSignRow.holds Try.pinned (OpenSpec.ofChange fnLogbSignSpec)

/-- ITS FALSE NEIGHBOUR: 'it returns false'. Refute it at one input. -/
def fnLogbSignWrong : ChangeSpec := { name := "fnLogbSign", fn := fun _ => fun
  | [d] => { results := [.lit (.bool false)], args := [d] }
  | _ => none }
def FnLogbSignWrongFalsely : Prop := fnLogbSignRow.holds Try.pinned (OpenSpec.ofChange fnLogbSignWrong)

/-- 'laws.FnLogbTwice': WHATEVER THE INPUT: true; the input reads as it did. -/
def fnLogbTwiceSpec : ChangeSpec := { name := "fnLogbTwice", fn := fun _ => fun
  | [d] => { results := [.lit (.bool true)], args := [d] }
  | _ => none }
def fnLogbTwiceRow : OpenClaim := { program := "ytalcfefnkjmdaaa", sum := "085ff3649da0dfa91de297f12575d5655475583422bd81b72259d47d56144bd8", func := "loop.example/lib-floatforms/laws.FnLogbTwice", spec := "fnLogbTwice", inPlace := ["math.Float64frombits", "math.Float64bits"], apart := false }
def FnLogbTwiceSaid : Prop := fnLogbTwiceRow.holds Try.pinned (OpenSpec.ofChange fnLogbTwiceSpec)

/-- ITS FALSE NEIGHBOUR: 'it returns false'. Refute it at one input. -/
def fnLogbTwiceWrong : ChangeSpec := { name := "fnLogbTwice", fn := fun _ => fun
  | [d] => { results := [.lit (.bool false)], args := [d] }
  | _ => none }
def FnLogbTwiceWrongFalsely : Prop := fnLogbTwiceRow.holds Try.pinned (OpenSpec.ofChange fnLogbTwiceWrong)

/- THE SECOND FORM. 'bulk': how many values and letters a reading holds, each counted each time it is reached (what is shared counts as often as it is met; a slice's spare places count too). A statement '..UptoSaid' is the law's where the arguments, and the package variables that the reading takes, are together of bulk at most 1048576: NARROWER than '..Said'. Prove '..Said' where nothing that the law and all that it calls make is longer than what came in: it says more and counts as full. Else prove '..UptoSaid'. A law counts once. -/
mutual
def uptoBulk {H : Type} : DataW H → Nat
  | .lit (.string bytes) => bytes.length + 1
  | .lit _ => 1
  | .nil => 1
  | .ptr d => uptoBulk d + 1
  | .slice elems spare => uptoBulkAll elems + uptoBulkAll spare + 1
  | .agg parts => uptoBulkAll parts + 1
  | .iface _ d => uptoBulk d + 1
  | .map entries => uptoBulkEntries entries + 1
  | .held _ => 1
def uptoBulkAll {H : Type} : List (DataW H) → Nat
  | [] => 0
  | d :: r => uptoBulk d + uptoBulkAll r
def uptoBulkEntries {H : Type} : List (Lit × DataW H) → Nat
  | [] => 0
  | x :: r => uptoBulkEntry x + uptoBulkEntries r
def uptoBulkEntry {H : Type} : Lit × DataW H → Nat
  | (.string bytes, d) => bytes.length + uptoBulk d + 1
  | (_, d) => uptoBulk d + 1
 end
def uptoSmall : (H : Type) → List (DataW H) → Bool := fun _ ds => decide (uptoBulkAll ds ≤ 1048576)
def OpenSpec.upto (s : _root_.Go.ChangeSpec) : _root_.Go.OpenSpec := { _root_.Go.OpenSpec.ofChange s with cond := some uptoSmall }

/-- 'laws.FnLogbRoads', WHERE WHAT IT READS IS OF BULK AT MOST 1048576: true; the input reads as it did. -/
def fnLogbRoadsUptoRow : OpenClaim := { program := "ytalcfefnkjmdaaa", sum := "085ff3649da0dfa91de297f12575d5655475583422bd81b72259d47d56144bd8", func := "loop.example/lib-floatforms/laws.FnLogbRoads", spec := "fnLogbRoads", inPlace := ["math.Float64bits", "math.Float64frombits"], apart := false, narrowed := true }
def FnLogbRoadsUptoSaid : Prop := fnLogbRoadsUptoRow.holds Try.pinned (OpenSpec.upto fnLogbRoadsSpec)

/-- 'laws.FnExactLog2', WHERE WHAT IT READS IS OF BULK AT MOST 1048576: true; the input reads as it did. -/
def fnExactLog2UptoRow : OpenClaim := { program := "ytalcfefnkjmdaaa", sum := "085ff3649da0dfa91de297f12575d5655475583422bd81b72259d47d56144bd8", func := "loop.example/lib-floatforms/laws.FnExactLog2", spec := "fnExactLog2", inPlace := ["math.Float64bits", "math.Float64frombits", "math.archLog"], apart := false, narrowed := true }
def FnExactLog2UptoSaid : Prop := fnExactLog2UptoRow.holds Try.pinned (OpenSpec.upto fnExactLog2Spec)

/-- 'laws.FnLog2Power', WHERE WHAT IT READS IS OF BULK AT MOST 1048576: true; the input reads as it did. -/
def fnLog2PowerUptoRow : OpenClaim := { program := "ytalcfefnkjmdaaa", sum := "085ff3649da0dfa91de297f12575d5655475583422bd81b72259d47d56144bd8", func := "loop.example/lib-floatforms/laws.FnLog2Power", spec := "fnLog2Power", inPlace := ["math.Float64bits", "math.Float64frombits", "math.archLog"], apart := false, narrowed := true }
def FnLog2PowerUptoSaid : Prop := fnLog2PowerUptoRow.holds Try.pinned (OpenSpec.upto fnLog2PowerSpec)

/-- 'laws.FnExactIlogb', WHERE WHAT IT READS IS OF BULK AT MOST 1048576: true; the input reads as it did. -/
def fnExactIlogbUptoRow : OpenClaim := { program := "ytalcfefnkjmdaaa", sum := "085ff3649da0dfa91de297f12575d5655475583422bd81b72259d47d56144bd8", func := "loop.example/lib-floatforms/laws.FnExactIlogb", spec := "fnExactIlogb", inPlace := ["math.Float64bits", "math.Float64frombits"], apart := false, narrowed := true }
def FnExactIlogbUptoSaid : Prop := fnExactIlogbUptoRow.holds Try.pinned (OpenSpec.upto fnExactIlogbSpec)

/-- 'laws.FnExactIlogbSmall', WHERE WHAT IT READS IS OF BULK AT MOST 1048576: true; the input reads as it did. -/
def fnExactIlogbSmallUptoRow : OpenClaim := { program := "ytalcfefnkjmdaaa", sum := "085ff3649da0dfa91de297f12575d5655475583422bd81b72259d47d56144bd8", func := "loop.example/lib-floatforms/laws.FnExactIlogbSmall", spec := "fnExactIlogbSmall", inPlace := ["math.Float64bits", "math.Float64frombits"], apart := false, narrowed := true }
def FnExactIlogbSmallUptoSaid : Prop := fnExactIlogbSmallUptoRow.holds Try.pinned (OpenSpec.upto fnExactIlogbSmallSpec)

/-- 'laws.FnLogbTimes', WHERE WHAT IT READS IS OF BULK AT MOST 1048576: true; the input reads as it did. -/
def fnLogbTimesUptoRow : OpenClaim := { program := "ytalcfefnkjmdaaa", sum := "085ff3649da0dfa91de297f12575d5655475583422bd81b72259d47d56144bd8", func := "loop.example/lib-floatforms/laws.FnLogbTimes", spec := "fnLogbTimes", inPlace := ["math.Float64bits", "math.Float64frombits"], apart := false, narrowed := true }
def FnLogbTimesUptoSaid : Prop := fnLogbTimesUptoRow.holds Try.pinned (OpenSpec.upto fnLogbTimesSpec)

/-- 'laws.FnLogbBits', WHERE WHAT IT READS IS OF BULK AT MOST 1048576: true; the input reads as it did. -/
def fnLogbBitsUptoRow : OpenClaim := { program := "ytalcfefnkjmdaaa", sum := "085ff3649da0dfa91de297f12575d5655475583422bd81b72259d47d56144bd8", func := "loop.example/lib-floatforms/laws.FnLogbBits", spec := "fnLogbBits", inPlace := ["math.Float64bits", "math.Float64frombits"], apart := false, narrowed := true }
def FnLogbBitsUptoSaid : Prop := fnLogbBitsUptoRow.holds Try.pinned (OpenSpec.upto fnLogbBitsSpec)

/-- 'laws.FnExactLogb', WHERE WHAT IT READS IS OF BULK AT MOST 1048576: true; the input reads as it did. -/
def fnExactLogbUptoRow : OpenClaim := { program := "ytalcfefnkjmdaaa", sum := "085ff3649da0dfa91de297f12575d5655475583422bd81b72259d47d56144bd8", func := "loop.example/lib-floatforms/laws.FnExactLogb", spec := "fnExactLogb", inPlace := ["math.Float64frombits", "math.Float64bits"], apart := false, narrowed := true }
def FnExactLogbUptoSaid : Prop := fnExactLogbUptoRow.holds Try.pinned (OpenSpec.upto fnExactLogbSpec)

/-- 'laws.FnExactLogbSmall', WHERE WHAT IT READS IS OF BULK AT MOST 1048576: true; the input reads as it did. -/
def fnExactLogbSmallUptoRow : OpenClaim := { program := "ytalcfefnkjmdaaa", sum := "085ff3649da0dfa91de297f12575d5655475583422bd81b72259d47d56144bd8", func := "loop.example/lib-floatforms/laws.FnExactLogbSmall", spec := "fnExactLogbSmall", inPlace := ["math.Float64frombits", "math.Float64bits"], apart := false, narrowed := true }
def FnExactLogbSmallUptoSaid : Prop := fnExactLogbSmallUptoRow.holds Try.pinned (OpenSpec.upto fnExactLogbSmallSpec)

/-- 'laws.FnLogbBounds', WHERE WHAT IT READS IS OF BULK AT MOST 1048576: true; the input reads as it did. -/
def fnLogbBoundsUptoRow : OpenClaim := { program := "ytalcfefnkjmdaaa", sum := "085ff3649da0dfa91de297f12575d5655475583422bd81b72259d47d56144bd8", func := "loop.example/lib-floatforms/laws.FnLogbBounds", spec := "fnLogbBounds", inPlace := ["math.Float64frombits", "math.Float64bits"], apart := false, narrowed := true }
def FnLogbBoundsUptoSaid : Prop := fnLogbBoundsUptoRow.holds Try.pinned (OpenSpec.upto fnLogbBoundsSpec)

/-- 'laws.FnLogbSign', WHERE WHAT IT READS IS OF BULK AT MOST 1048576: true; the input reads as it did. -/
def fnLogbSignUptoRow : OpenClaim := { program := "ytalcfefnkjmdaaa", sum := "085ff3649da0dfa91de297f12575d5655475583422bd81b72259d47d56144bd8", func := "loop.example/lib-floatforms/laws.FnLogbSign", spec := "fnLogbSign", inPlace := ["math.Float64frombits", "math.Float64bits"], apart := false, narrowed := true }
def FnLogbSignUptoSaid : Prop := fnLogbSignUptoRow.holds Try.pinned (OpenSpec.upto fnLogbSignSpec)

/-- 'laws.FnLogbTwice', WHERE WHAT IT READS IS OF BULK AT MOST 1048576: true; the input reads as it did. -/
def fnLogbTwiceUptoRow : OpenClaim := { program := "ytalcfefnkjmdaaa", sum := "085ff3649da0dfa91de297f12575d5655475583422bd81b72259d47d56144bd8", func := "loop.example/lib-floatforms/laws.FnLogbTwice", spec := "fnLogbTwice", inPlace := ["math.Float64frombits", "math.Float64bits"], apart := false, narrowed := true }
def FnLogbTwiceUptoSaid : Prop := fnLogbTwiceUptoRow.holds Try.pinned (OpenSpec.upto fnLogbTwiceSpec)

end Rows
end Go.Proofs.Ytalcfefnkjmdaaa
