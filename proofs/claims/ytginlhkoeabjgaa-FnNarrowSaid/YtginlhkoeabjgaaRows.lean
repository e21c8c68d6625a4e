/-
  No cell of these rows narrows 'for every input' (looked for: loops, veiled, ifaces, maps, wideKeys, modest, calm, conditions, laid).
  DERIVED. THE GIVEN ROWS OF THIS SEAT. 11 by the template 'for every input the law returns true; each argument reads behind the call as it read before'; 0 by the template 'total and deterministic' (their statements: YtginlhkoeabjgaaTotals.lean).
  GIVEN WITH THE SEED: the statements are not yours to turn. If you find one false, say at which input.
  Laid BY PROGRAM, IN A SANDBOX (cutbox-rows.mjs): the forced cells as the released guide's own fill.sh prints them over the translation f9817d550dca9e2b… (all of the seat's roots in one cut). By AI agents, Wed Nov 11 2026. No macro, syntax, notation, axiom, sorry.
-/
import Derived.Test.YtginlhkoeabjgaaChecked
import GoSem.Claim
import GoSem.ClaimJoined
import GoSem.ClaimMapViews
import Derived.JoinedTies
import Derived.KernelRfl
namespace Go.Proofs.Ytginlhkoeabjgaa
/- THE CELL 'sum', in the pinned program and in every row, IS THE sha256 OF THE DUMP (.gsa) THAT YtginlhkoeabjgaaProg.lean LOADS. Nothing in Lean hashes anything: it is a label: what it is worth is what the hold of that sum in a sandbox is worth. -/
noncomputable def Try.pinned : Pinned := { name := "ytginlhkoeabjgaa", sum := "f9817d550dca9e2b41e053935fb43d8b4df0849c4f3c448be68c91c7a03eb3a0", checked := Try.checked }
namespace Rows
def none {H : Type} : Left H := { results := [], args := [] }

/-- 'laws.FnExactIsNaN': WHATEVER THE INPUT: true; the input reads as it did. -/
def fnExactIsNaNSpec : ChangeSpec := { name := "fnExactIsNaN", fn := fun _ => fun
  | [d] => { results := [.lit (.bool true)], args := [d] }
  | _ => none }
def fnExactIsNaNRow : OpenClaim := { program := "ytginlhkoeabjgaa", sum := "f9817d550dca9e2b41e053935fb43d8b4df0849c4f3c448be68c91c7a03eb3a0", func := "loop.example/lib-floatforms/laws.FnExactIsNaN", spec := "fnExactIsNaN", apart := false }
def FnExactIsNaNSaid : Prop := fnExactIsNaNRow.holds Try.pinned (OpenSpec.ofChange fnExactIsNaNSpec)

/-- ITS FALSE NEIGHBOUR: 'it returns false'. Refute it at one input. -/
def fnExactIsNaNWrong : ChangeSpec := { name := "fnExactIsNaN", fn := fun _ => fun
  | [d] => { results := [.lit (.bool false)], args := [d] }
  | _ => none }
def FnExactIsNaNWrongFalsely : Prop := fnExactIsNaNRow.holds Try.pinned (OpenSpec.ofChange fnExactIsNaNWrong)

/-- 'laws.FnIsNaNBits': WHATEVER THE INPUT: true; the input reads as it did. -/
def fnIsNaNBitsSpec : ChangeSpec := { name := "fnIsNaNBits", fn := fun _ => fun
  | [d] => { results := [.lit (.bool true)], args := [d] }
  | _ => none }
def fnIsNaNBitsRow : OpenClaim := { program := "ytginlhkoeabjgaa", sum := "f9817d550dca9e2b41e053935fb43d8b4df0849c4f3c448be68c91c7a03eb3a0", func := "loop.example/lib-floatforms/laws.FnIsNaNBits", spec := "fnIsNaNBits", inPlace := ["math.Float64frombits"], apart := false }
def FnIsNaNBitsSaid : Prop := fnIsNaNBitsRow.holds Try.pinned (OpenSpec.ofChange fnIsNaNBitsSpec)

/-- ITS FALSE NEIGHBOUR: 'it returns false'. Refute it at one input. -/
def fnIsNaNBitsWrong : ChangeSpec := { name := "fnIsNaNBits", fn := fun _ => fun
  | [d] => { results := [.lit (.bool false)], args := [d] }
  | _ => none }
def FnIsNaNBitsWrongFalsely : Prop := fnIsNaNBitsRow.holds Try.pinned (OpenSpec.ofChange fnIsNaNBitsWrong)

/-- 'laws.FnNarrow': WHATEVER THE INPUT: true; the input reads as it did. -/
def fnNarrowSpec : ChangeSpec := { name := "fnNarrow", fn := fun _ => fun
  | [d] => { results := [.lit (.bool true)], args := [d] }
  | _ => none }
def fnNarrowRow : OpenClaim := { program := "ytginlhkoeabjgaa", sum := "f9817d550dca9e2b41e053935fb43d8b4df0849c4f3c448be68c91c7a03eb3a0", func := "loop.example/lib-floatforms/laws.FnNarrow", spec := "fnNarrow", inPlace := ["math.Float32bits"], apart := false }
def FnNarrowSaid : Prop := fnNarrowRow.holds Try.pinned (OpenSpec.ofChange fnNarrowSpec)

/-- ITS FALSE NEIGHBOUR: 'it returns false'. Refute it at one input. -/
def fnNarrowWrong : ChangeSpec := { name := "fnNarrow", fn := fun _ => fun
  | [d] => { results := [.lit (.bool false)], args := [d] }
  | _ => none }
def FnNarrowWrongFalsely : Prop := fnNarrowRow.holds Try.pinned (OpenSpec.ofChange fnNarrowWrong)

/-- 'laws.FnAbsRoads': WHATEVER THE INPUT: true; the input reads as it did. -/
def fnAbsRoadsSpec : ChangeSpec := { name := "fnAbsRoads", fn := fun _ => fun
  | [d] => { results := [.lit (.bool true)], args := [d] }
  | _ => none }
def fnAbsRoadsRow : OpenClaim := { program := "ytginlhkoeabjgaa", sum := "f9817d550dca9e2b41e053935fb43d8b4df0849c4f3c448be68c91c7a03eb3a0", func := "loop.example/lib-floatforms/laws.FnAbsRoads", spec := "fnAbsRoads", inPlace := ["math.Float64bits", "math.Float64frombits"], apart := false }
def FnAbsRoadsSaid : Prop := fnAbsRoadsRow.holds Try.pinned (OpenSpec.ofChange fnAbsRoadsSpec)

/-- ITS FALSE NEIGHBOUR: 'it returns false'. Refute it at one input. -/
def fnAbsRoadsWrong : ChangeSpec := { name := "fnAbsRoads", fn := fun _ => fun
  | [d] => { results := [.lit (.bool false)], args := [d] }
  | _ => none }
def FnAbsRoadsWrongFalsely : Prop := fnAbsRoadsRow.holds Try.pinned (OpenSpec.ofChange fnAbsRoadsWrong)

/-- 'laws.FnCopysignBits': WHATEVER THE INPUT: true; the input reads as it did. -/
def fnCopysignBitsSpec : ChangeSpec := { name := "fnCopysignBits", fn := fun _ => fun
  | [d1, d2] => { results := [.lit (.bool true)], args := [d1, d2] }
  | _ => none }
def fnCopysignBitsRow : OpenClaim := { program := "ytginlhkoeabjgaa", sum := "f9817d550dca9e2b41e053935fb43d8b4df0849c4f3c448be68c91c7a03eb3a0", func := "loop.example/lib-floatforms/laws.FnCopysignBits", spec := "fnCopysignBits", inPlace := ["math.Float64frombits", "math.Float64bits"], apart := false }
def FnCopysignBitsSaid : Prop := fnCopysignBitsRow.holds Try.pinned (OpenSpec.ofChange fnCopysignBitsSpec)

/-- ITS FALSE NEIGHBOUR: 'it returns false'. Refute it at one input. -/
def fnCopysignBitsWrong : ChangeSpec := { name := "fnCopysignBits", fn := fun _ => fun
  | [d1, d2] => { results := [.lit (.bool false)], args := [d1, d2] }
  | _ => none }
def FnCopysignBitsWrongFalsely : Prop := fnCopysignBitsRow.holds Try.pinned (OpenSpec.ofChange fnCopysignBitsWrong)

/-- 'laws.FnCopysignTwice': WHATEVER THE INPUT: true; the input reads as it did. -/
def fnCopysignTwiceSpec : ChangeSpec := { name := "fnCopysignTwice", fn := fun _ => fun
  | [d1, d2] => { results := [.lit (.bool true)], args := [d1, d2] }
  | _ => none }
def fnCopysignTwiceRow : OpenClaim := { program := "ytginlhkoeabjgaa", sum := "f9817d550dca9e2b41e053935fb43d8b4df0849c4f3c448be68c91c7a03eb3a0", func := "loop.example/lib-floatforms/laws.FnCopysignTwice", spec := "fnCopysignTwice", inPlace := ["math.Float64bits", "math.Float64frombits"], apart := false }
def FnCopysignTwiceSaid : Prop := fnCopysignTwiceRow.holds Try.pinned (OpenSpec.ofChange fnCopysignTwiceSpec)

/-- ITS FALSE NEIGHBOUR: 'it returns false'. Refute it at one input. -/
def fnCopysignTwiceWrong : ChangeSpec := { name := "fnCopysignTwice", fn := fun _ => fun
  | [d1, d2] => { results := [.lit (.bool false)], args := [d1, d2] }
  | _ => none }
def FnCopysignTwiceWrongFalsely : Prop := fnCopysignTwiceRow.holds Try.pinned (OpenSpec.ofChange fnCopysignTwiceWrong)

/-- 'laws.FnOpposite': WHATEVER THE INPUT: true; the input reads as it did. -/
def fnOppositeSpec : ChangeSpec := { name := "fnOpposite", fn := fun _ => fun
  | [d] => { results := [.lit (.bool true)], args := [d] }
  | _ => none }
def fnOppositeRow : OpenClaim := { program := "ytginlhkoeabjgaa", sum := "f9817d550dca9e2b41e053935fb43d8b4df0849c4f3c448be68c91c7a03eb3a0", func := "loop.example/lib-floatforms/laws.FnOpposite", spec := "fnOpposite", inPlace := ["math.Float64frombits", "math.Float64bits"], apart := false }
def FnOppositeSaid : Prop := fnOppositeRow.holds Try.pinned (OpenSpec.ofChange fnOppositeSpec)

/-- ITS FALSE NEIGHBOUR: 'it returns false'. Refute it at one input. -/
def fnOppositeWrong : ChangeSpec := { name := "fnOpposite", fn := fun _ => fun
  | [d] => { results := [.lit (.bool false)], args := [d] }
  | _ => none }
def FnOppositeWrongFalsely : Prop := fnOppositeRow.holds Try.pinned (OpenSpec.ofChange fnOppositeWrong)

/-- 'laws.FnExactIsInf': WHATEVER THE INPUT: true; the input reads as it did. -/
def fnExactIsInfSpec : ChangeSpec := { name := "fnExactIsInf", fn := fun _ => fun
  | [d1, d2] => { results := [.lit (.bool true)], args := [d1, d2] }
  | _ => none }
def fnExactIsInfRow : OpenClaim := { program := "ytginlhkoeabjgaa", sum := "f9817d550dca9e2b41e053935fb43d8b4df0849c4f3c448be68c91c7a03eb3a0", func := "loop.example/lib-floatforms/laws.FnExactIsInf", spec := "fnExactIsInf", inPlace := ["math.Float64bits", "math.Float64frombits"], apart := false }
def FnExactIsInfSaid : Prop := fnExactIsInfRow.holds Try.pinned (OpenSpec.ofChange fnExactIsInfSpec)

/-- ITS FALSE NEIGHBOUR: 'it returns false'. Refute it at one input. -/
def fnExactIsInfWrong : ChangeSpec := { name := "fnExactIsInf", fn := fun _ => fun
  | [d1, d2] => { results := [.lit (.bool false)], args := [d1, d2] }
  | _ => none }
def FnExactIsInfWrongFalsely : Prop := fnExactIsInfRow.holds Try.pinned (OpenSpec.ofChange fnExactIsInfWrong)

/-- 'laws.FnIsInfBits': WHATEVER THE INPUT: true; the input reads as it did. -/
def fnIsInfBitsSpec : ChangeSpec := { name := "fnIsInfBits", fn := fun _ => fun
  | [d] => { results := [.lit (.bool true)], args := [d] }
  | _ => none }
def fnIsInfBitsRow : OpenClaim := { program := "ytginlhkoeabjgaa", sum := "f9817d550dca9e2b41e053935fb43d8b4df0849c4f3c448be68c91c7a03eb3a0", func := "loop.example/lib-floatforms/laws.FnIsInfBits", spec := "fnIsInfBits", inPlace := ["math.Float64frombits", "math.Float64bits"], apart := false }
def FnIsInfBitsSaid : Prop := fnIsInfBitsRow.holds Try.pinned (OpenSpec.ofChange fnIsInfBitsSpec)

/-- ITS FALSE NEIGHBOUR: 'it returns false'. Refute it at one input. -/
def fnIsInfBitsWrong : ChangeSpec := { name := "fnIsInfBits", fn := fun _ => fun
  | [d] => { results := [.lit (.bool false)], args := [d] }
  | _ => none }
def FnIsInfBitsWrongFalsely : Prop := fnIsInfBitsRow.holds Try.pinned (OpenSpec.ofChange fnIsInfBitsWrong)

/-- 'laws.FnAbsBits': WHATEVER THE INPUT: true; the input reads as it did. -/
def fnAbsBitsSpec : ChangeSpec := { name := "fnAbsBits", fn := fun _ => fun
  | [d] => { results := [.lit (.bool true)], args := [d] }
  | _ => none }
def fnAbsBitsRow : OpenClaim := { program := "ytginlhkoeabjgaa", sum := "f9817d550dca9e2b41e053935fb43d8b4df0849c4f3c448be68c91c7a03eb3a0", func := "loop.example/lib-floatforms/laws.FnAbsBits", spec := "fnAbsBits", inPlace := ["math.Float64frombits", "math.Float64bits"], apart := false }
def FnAbsBitsSaid : Prop := fnAbsBitsRow.holds Try.pinned (OpenSpec.ofChange fnAbsBitsSpec)

/-- ITS FALSE NEIGHBOUR: 'it returns false'. Refute it at one input. -/
def fnAbsBitsWrong : ChangeSpec := { name := "fnAbsBits", fn := fun _ => fun
  | [d] => { results := [.lit (.bool false)], args := [d] }
  | _ => none }
def FnAbsBitsWrongFalsely : Prop := fnAbsBitsRow.holds Try.pinned (OpenSpec.ofChange fnAbsBitsWrong)

/-- 'laws.FnKinds': WHATEVER THE INPUT: true; the input reads as it did. -/
def fnKindsSpec : ChangeSpec := { name := "fnKinds", fn := fun _ => fun
  | [d] => { results := [.lit (.bool true)], args := [d] }
  | _ => none }
def fnKindsRow : OpenClaim := { program := "ytginlhkoeabjgaa", sum := "f9817d550dca9e2b41e053935fb43d8b4df0849c4f3c448be68c91c7a03eb3a0", func := "loop.example/lib-floatforms/laws.FnKinds", spec := "fnKinds", inPlace := ["math.Float64bits", "math.Float64frombits"], apart := false }
def FnKindsSaid : Prop := fnKindsRow.holds Try.pinned (OpenSpec.ofChange fnKindsSpec)

/-- ITS FALSE NEIGHBOUR: 'it returns false'. Refute it at one input. -/
def fnKindsWrong : ChangeSpec := { name := "fnKinds", fn := fun _ => fun
  | [d] => { results := [.lit (.bool false)], args := [d] }
  | _ => none }
def FnKindsWrongFalsely : Prop := fnKindsRow.holds Try.pinned (OpenSpec.ofChange fnKindsWrong)

/- THE SECOND FORM. 'bulk': how many values and letters a reading holds, each counted each time it is reached (what is shared counts as often as it is met; a slice's spare places count too). A statement '..UptoSaid' is the law's where the arguments, and the package variables that the reading takes, are together of bulk at most 1048576: NARROWER than '..Said'. Prove '..Said' where nothing that the law and all that it calls make is longer than what came in: it says more and counts as full. Else prove '..UptoSaid'. A law counts once. -/
mutual
def uptoBulk {H : Type} : DataW H → Nat
  | .lit (.string bytes) => bytes.length + 1
  | .lit _ => 1
  | .nil => 1
  | .ptr d => uptoBulk d + 1
  | .slice elems spare => uptoBulkAll elems + uptoBulkAll spare + 1
  | .agg parts => uptoBulkAll parts + 1
  | .iface _ d => uptoBulk d + 1
  | .map entries => uptoBulkEntries entries + 1
  | .held _ => 1
def uptoBulkAll {H : Type} : List (DataW H) → Nat
  | [] => 0
  | d :: r => uptoBulk d + uptoBulkAll r
def uptoBulkEntries {H : Type} : List (Lit × DataW H) → Nat
  | [] => 0
  | x :: r => uptoBulkEntry x + uptoBulkEntries r
def uptoBulkEntry {H : Type} : Lit × DataW H → Nat
  | (.string bytes, d) => bytes.length + uptoBulk d + 1
  | (_, d) => uptoBulk d + 1
 end
def uptoSmall : (H : Type) → List (DataW H) → Bool := fun _ ds => decide (uptoBulkAll ds ≤ 1048576)
def OpenSpec.upto (s : _root_.Go.ChangeSpec) : _root_.Go.OpenSpec := { _root_.Go.OpenSpec.ofChange s with cond := some uptoSmall }

/-- 'laws.FnExactIsNaN', WHERE WHAT IT READS IS OF BULK AT MOST 1048576: true; the input reads as it did. -/
def fnExactIsNaNUptoRow : OpenClaim := { program := "ytginlhkoeabjgaa", sum := "f9817d550dca9e2b41e053935fb43d8b4df0849c4f3c448be68c91c7a03eb3a0", func := "loop.example/lib-floatforms/laws.FnExactIsNaN", spec := "fnExactIsNaN", apart := false, narrowed := true }
def FnExactIsNaNUptoSaid : Prop := fnExactIsNaNUptoRow.holds Try.pinned (OpenSpec.upto fnExactIsNaNSpec)

/-- 'laws.FnIsNaNBits', WHERE WHAT IT READS IS OF BULK AT MOST 1048576: true; the input reads as it did. -/
def fnIsNaNBitsUptoRow : OpenClaim := { program := "ytginlhkoeabjgaa", sum := "f9817d550dca9e2b41e053935fb43d8b4df0849c4f3c448be68c91c7a03eb3a0", func := "loop.example/lib-floatforms/laws.FnIsNaNBits", spec := "fnIsNaNBits", inPlace := ["math.Float64frombits"], apart := false, narrowed := true }
def FnIsNaNBitsUptoSaid : Prop := fnIsNaNBitsUptoRow.holds Try.pinned (OpenSpec.upto fnIsNaNBitsSpec)

/-- 'laws.FnNarrow', WHERE WHAT IT READS IS OF BULK AT MOST 1048576: true; the input reads as it did. -/
def fnNarrowUptoRow : OpenClaim := { program := "ytginlhkoeabjgaa", sum := "f9817d550dca9e2b41e053935fb43d8b4df0849c4f3c448be68c91c7a03eb3a0", func := "loop.example/lib-floatforms/laws.FnNarrow", spec := "fnNarrow", inPlace := ["math.Float32bits"], apart := false, narrowed := true }
def FnNarrowUptoSaid : Prop := fnNarrowUptoRow.holds Try.pinned (OpenSpec.upto fnNarrowSpec)

/-- 'laws.FnAbsRoads', WHERE WHAT IT READS IS OF BULK AT MOST 1048576: true; the input reads as it did. -/
def fnAbsRoadsUptoRow : OpenClaim := { program := "ytginlhkoeabjgaa", sum := "f9817d550dca9e2b41e053935fb43d8b4df0849c4f3c448be68c91c7a03eb3a0", func := "loop.example/lib-floatforms/laws.FnAbsRoads", spec := "fnAbsRoads", inPlace := ["math.Float64bits", "math.Float64frombits"], apart := false, narrowed := true }
def FnAbsRoadsUptoSaid : Prop := fnAbsRoadsUptoRow.holds Try.pinned (OpenSpec.upto fnAbsRoadsSpec)

/-- 'laws.FnCopysignBits', WHERE WHAT IT READS IS OF BULK AT MOST 1048576: true; the input reads as it did. -/
def fnCopysignBitsUptoRow : OpenClaim := { program := "ytginlhkoeabjgaa", sum := "f9817d550dca9e2b41e053935fb43d8b4df0849c4f3c448be68c91c7a03eb3a0", func := "loop.example/lib-floatforms/laws.FnCopysignBits", spec := "fnCopysignBits", inPlace := ["math.Float64frombits", "math.Float64bits"], apart := false, narrowed := true }
def FnCopysignBitsUptoSaid : Prop := fnCopysignBitsUptoRow.holds Try.pinned (OpenSpec.upto fnCopysignBitsSpec)

/-- 'laws.FnCopysignTwice', WHERE WHAT IT READS IS OF BULK AT MOST 1048576: true; the input reads as it did. -/
def fnCopysignTwiceUptoRow : OpenClaim := { program := "ytginlhkoeabjgaa", sum := "f9817d550dca9e2b41e053935fb43d8b4df0849c4f3c448be68c91c7a03eb3a0", func := "loop.example/lib-floatforms/laws.FnCopysignTwice", spec := "fnCopysignTwice", inPlace := ["math.Float64bits", "math.Float64frombits"], apart := false, narrowed := true }
def FnCopysignTwiceUptoSaid : Prop := fnCopysignTwiceUptoRow.holds Try.pinned (OpenSpec.upto fnCopysignTwiceSpec)

/-- 'laws.FnOpposite', WHERE WHAT IT READS IS OF BULK AT MOST 1048576: true; the input reads as it did. -/
def fnOppositeUptoRow : OpenClaim := { program := "ytginlhkoeabjgaa", sum := "f9817d550dca9e2b41e053935fb43d8b4df0849c4f3c448be68c91c7a03eb3a0", func := "loop.example/lib-floatforms/laws.FnOpposite", spec := "fnOpposite", inPlace := ["math.Float64frombits", "math.Float64bits"], apart := false, narrowed := true }
def FnOppositeUptoSaid : Prop := fnOppositeUptoRow.holds Try.pinned (OpenSpec.upto fnOppositeSpec)

/-- 'laws.FnExactIsInf', WHERE WHAT IT READS IS OF BULK AT MOST 1048576: true; the input reads as it did. -/
def fnExactIsInfUptoRow : OpenClaim := { program := "ytginlhkoeabjgaa", sum := "f9817d550dca9e2b41e053935fb43d8b4df0849c4f3c448be68c91c7a03eb3a0", func := "loop.example/lib-floatforms/laws.FnExactIsInf", spec := "fnExactIsInf", inPlace := ["math.Float64bits", "math.Float64frombits"], apart := false, narrowed := true }
def FnExactIsInfUptoSaid : Prop := fnExactIsInfUptoRow.holds Try.pinned (OpenSpec.upto fnExactIsInfSpec)

/-- 'laws.FnIsInfBits', WHERE WHAT IT READS IS OF BULK AT MOST 1048576: true; the input reads as it did. -/
def fnIsInfBitsUptoRow : OpenClaim := { program := "ytginlhkoeabjgaa", sum := "f9817d550dca9e2b41e053935fb43d8b4df0849c4f3c448be68c91c7a03eb3a0", func := "loop.example/lib-floatforms/laws.FnIsInfBits", spec := "fnIsInfBits", inPlace := ["math.Float64frombits", "math.Float64bits"], apart := false, narrowed := true }
def FnIsInfBitsUptoSaid : Prop := fnIsInfBitsUptoRow.holds Try.pinned (OpenSpec.upto fnIsInfBitsSpec)

/-- 'laws.FnAbsBits', WHERE WHAT IT READS IS OF BULK AT MOST 1048576: true; the input reads as it did. -/
def fnAbsBitsUptoRow : OpenClaim := { program := "ytginlhkoeabjgaa", sum := "f9817d550dca9e2b41e053935fb43d8b4df0849c4f3c448be68c91c7a03eb3a0", func := "loop.example/lib-floatforms/laws.FnAbsBits", spec := "fnAbsBits", inPlace := ["math.Float64frombits", "math.Float64bits"], apart := false, narrowed := true }
def FnAbsBitsUptoSaid : Prop := fnAbsBitsUptoRow.holds Try.pinned (OpenSpec.upto fnAbsBitsSpec)

/-- 'laws.FnKinds', WHERE WHAT IT READS IS OF BULK AT MOST 1048576: true; the input reads as it did. -/
def fnKindsUptoRow : OpenClaim := { program := "ytginlhkoeabjgaa", sum := "f9817d550dca9e2b41e053935fb43d8b4df0849c4f3c448be68c91c7a03eb3a0", func := "loop.example/lib-floatforms/laws.FnKinds", spec := "fnKinds", inPlace := ["math.Float64bits", "math.Float64frombits"], apart := false, narrowed := true }
def FnKindsUptoSaid : Prop := fnKindsUptoRow.holds Try.pinned (OpenSpec.upto fnKindsSpec)

end Rows
end Go.Proofs.Ytginlhkoeabjgaa
