/-
  No cell of these rows narrows 'for every input' (looked for: loops, veiled, ifaces, maps, wideKeys, modest, calm, conditions, laid).
  DERIVED. THE GIVEN ROWS OF THIS SEAT. 12 by the template 'for every input the law returns true; each argument reads behind the call as it read before'; 0 by the template 'total and deterministic' (their statements: YtfjophnfjfphgaaTotals.lean).
  GIVEN WITH THE SEED: the statements are not yours to turn. If you find one false, say at which input.
  Laid BY PROGRAM, IN A SANDBOX (cutbox-rows.mjs): the forced cells as the released guide's own fill.sh prints them over the translation 7d18c389f20dfdf8… (all of the seat's roots in one cut). By AI agents, Wed Nov 11 2026. No macro, syntax, notation, axiom, sorry.
-/
import Derived.Test.YtfjophnfjfphgaaChecked
import GoSem.Claim
import GoSem.ClaimJoined
import GoSem.ClaimMapViews
import Derived.JoinedTies
import Derived.KernelRfl
namespace Go.Proofs.Ytfjophnfjfphgaa
/- THE CELL 'sum', in the pinned program and in every row, IS THE sha256 OF THE DUMP (.gsa) THAT YtfjophnfjfphgaaProg.lean LOADS. Nothing in Lean hashes anything: it is a label: what it is worth is what the hold of that sum in a sandbox is worth. -/
noncomputable def Try.pinned : Pinned := { name := "ytfjophnfjfphgaa", sum := "7d18c389f20dfdf84b124263b8b8c684d970ce9bdb5cd0a2f996ab049a6f2d85", checked := Try.checked }
namespace Rows
def none {H : Type} : Left H := { results := [], args := [] }

/-- 'laws.FnExactFloat32bits': WHATEVER THE INPUT: true; the input reads as it did. -/
def fnExactFloat32bitsSpec : ChangeSpec := { name := "fnExactFloat32bits", fn := fun _ => fun
  | [d] => { results := [.lit (.bool true)], args := [d] }
  | _ => none }
def fnExactFloat32bitsRow : OpenClaim := { program := "ytfjophnfjfphgaa", sum := "7d18c389f20dfdf84b124263b8b8c684d970ce9bdb5cd0a2f996ab049a6f2d85", func := "loop.example/lib-floatforms/laws.FnExactFloat32bits", spec := "fnExactFloat32bits", inPlace := ["math.Float32bits"], apart := false }
def FnExactFloat32bitsSaid : Prop := fnExactFloat32bitsRow.holds Try.pinned (OpenSpec.ofChange fnExactFloat32bitsSpec)

/-- ITS FALSE NEIGHBOUR: 'it returns false'. Refute it at one input. -/
def fnExactFloat32bitsWrong : ChangeSpec := { name := "fnExactFloat32bits", fn := fun _ => fun
  | [d] => { results := [.lit (.bool false)], args := [d] }
  | _ => none }
def FnExactFloat32bitsWrongFalsely : Prop := fnExactFloat32bitsRow.holds Try.pinned (OpenSpec.ofChange fnExactFloat32bitsWrong)

/-- 'laws.FnExactFloat32frombits': WHATEVER THE INPUT: true; the input reads as it did. -/
def fnExactFloat32frombitsSpec : ChangeSpec := { name := "fnExactFloat32frombits", fn := fun _ => fun
  | [d] => { results := [.lit (.bool true)], args := [d] }
  | _ => none }
def fnExactFloat32frombitsRow : OpenClaim := { program := "ytfjophnfjfphgaa", sum := "7d18c389f20dfdf84b124263b8b8c684d970ce9bdb5cd0a2f996ab049a6f2d85", func := "loop.example/lib-floatforms/laws.FnExactFloat32frombits", spec := "fnExactFloat32frombits", inPlace := ["math.Float32frombits"], apart := false }
def FnExactFloat32frombitsSaid : Prop := fnExactFloat32frombitsRow.holds Try.pinned (OpenSpec.ofChange fnExactFloat32frombitsSpec)

/-- ITS FALSE NEIGHBOUR: 'it returns false'. Refute it at one input. -/
def fnExactFloat32frombitsWrong : ChangeSpec := { name := "fnExactFloat32frombits", fn := fun _ => fun
  | [d] => { results := [.lit (.bool false)], args := [d] }
  | _ => none }
def FnExactFloat32frombitsWrongFalsely : Prop := fnExactFloat32frombitsRow.holds Try.pinned (OpenSpec.ofChange fnExactFloat32frombitsWrong)

/-- 'laws.FnExactFloat64bits': WHATEVER THE INPUT: true; the input reads as it did. -/
def fnExactFloat64bitsSpec : ChangeSpec := { name := "fnExactFloat64bits", fn := fun _ => fun
  | [d] => { results := [.lit (.bool true)], args := [d] }
  | _ => none }
def fnExactFloat64bitsRow : OpenClaim := { program := "ytfjophnfjfphgaa", sum := "7d18c389f20dfdf84b124263b8b8c684d970ce9bdb5cd0a2f996ab049a6f2d85", func := "loop.example/lib-floatforms/laws.FnExactFloat64bits", spec := "fnExactFloat64bits", inPlace := ["math.Float64bits"], apart := false }
def FnExactFloat64bitsSaid : Prop := fnExactFloat64bitsRow.holds Try.pinned (OpenSpec.ofChange fnExactFloat64bitsSpec)

/-- ITS FALSE NEIGHBOUR: 'it returns false'. Refute it at one input. -/
def fnExactFloat64bitsWrong : ChangeSpec := { name := "fnExactFloat64bits", fn := fun _ => fun
  | [d] => { results := [.lit (.bool false)], args := [d] }
  | _ => none }
def FnExactFloat64bitsWrongFalsely : Prop := fnExactFloat64bitsRow.holds Try.pinned (OpenSpec.ofChange fnExactFloat64bitsWrong)

/-- 'laws.FnExactFloat64frombits': WHATEVER THE INPUT: true; the input reads as it did. -/
def fnExactFloat64frombitsSpec : ChangeSpec := { name := "fnExactFloat64frombits", fn := fun _ => fun
  | [d] => { results := [.lit (.bool true)], args := [d] }
  | _ => none }
def fnExactFloat64frombitsRow : OpenClaim := { program := "ytfjophnfjfphgaa", sum := "7d18c389f20dfdf84b124263b8b8c684d970ce9bdb5cd0a2f996ab049a6f2d85", func := "loop.example/lib-floatforms/laws.FnExactFloat64frombits", spec := "fnExactFloat64frombits", inPlace := ["math.Float64frombits"], apart := false }
def FnExactFloat64frombitsSaid : Prop := fnExactFloat64frombitsRow.holds Try.pinned (OpenSpec.ofChange fnExactFloat64frombitsSpec)

/-- ITS FALSE NEIGHBOUR: 'it returns false'. Refute it at one input. -/
def fnExactFloat64frombitsWrong : ChangeSpec := { name := "fnExactFloat64frombits", fn := fun _ => fun
  | [d] => { results := [.lit (.bool false)], args := [d] }
  | _ => none }
def FnExactFloat64frombitsWrongFalsely : Prop := fnExactFloat64frombitsRow.holds Try.pinned (OpenSpec.ofChange fnExactFloat64frombitsWrong)

/-- 'laws.FnNext': WHATEVER THE INPUT: true; the input reads as it did. -/
def fnNextSpec : ChangeSpec := { name := "fnNext", fn := fun _ => fun
  | [d] => { results := [.lit (.bool true)], args := [d] }
  | _ => none }
def fnNextRow : OpenClaim := { program := "ytfjophnfjfphgaa", sum := "7d18c389f20dfdf84b124263b8b8c684d970ce9bdb5cd0a2f996ab049a6f2d85", func := "loop.example/lib-floatforms/laws.FnNext", spec := "fnNext", inPlace := ["math.Float64frombits"], apart := false }
def FnNextSaid : Prop := fnNextRow.holds Try.pinned (OpenSpec.ofChange fnNextSpec)

/-- ITS FALSE NEIGHBOUR: 'it returns false'. Refute it at one input. -/
def fnNextWrong : ChangeSpec := { name := "fnNext", fn := fun _ => fun
  | [d] => { results := [.lit (.bool false)], args := [d] }
  | _ => none }
def FnNextWrongFalsely : Prop := fnNextRow.holds Try.pinned (OpenSpec.ofChange fnNextWrong)

/-- 'laws.FnOrder': WHATEVER THE INPUT: true; the input reads as it did. -/
def fnOrderSpec : ChangeSpec := { name := "fnOrder", fn := fun _ => fun
  | [d1, d2] => { results := [.lit (.bool true)], args := [d1, d2] }
  | _ => none }
def fnOrderRow : OpenClaim := { program := "ytfjophnfjfphgaa", sum := "7d18c389f20dfdf84b124263b8b8c684d970ce9bdb5cd0a2f996ab049a6f2d85", func := "loop.example/lib-floatforms/laws.FnOrder", spec := "fnOrder", inPlace := ["math.Float64frombits"], apart := false }
def FnOrderSaid : Prop := fnOrderRow.holds Try.pinned (OpenSpec.ofChange fnOrderSpec)

/-- ITS FALSE NEIGHBOUR: 'it returns false'. Refute it at one input. -/
def fnOrderWrong : ChangeSpec := { name := "fnOrder", fn := fun _ => fun
  | [d1, d2] => { results := [.lit (.bool false)], args := [d1, d2] }
  | _ => none }
def FnOrderWrongFalsely : Prop := fnOrderRow.holds Try.pinned (OpenSpec.ofChange fnOrderWrong)

/-- 'laws.FnOrder32': WHATEVER THE INPUT: true; the input reads as it did. -/
def fnOrder32Spec : ChangeSpec := { name := "fnOrder32", fn := fun _ => fun
  | [d1, d2] => { results := [.lit (.bool true)], args := [d1, d2] }
  | _ => none }
def fnOrder32Row : OpenClaim := { program := "ytfjophnfjfphgaa", sum := "7d18c389f20dfdf84b124263b8b8c684d970ce9bdb5cd0a2f996ab049a6f2d85", func := "loop.example/lib-floatforms/laws.FnOrder32", spec := "fnOrder32", inPlace := ["math.Float32frombits"], apart := false }
def FnOrder32Said : Prop := fnOrder32Row.holds Try.pinned (OpenSpec.ofChange fnOrder32Spec)

/-- ITS FALSE NEIGHBOUR: 'it returns false'. Refute it at one input. -/
def fnOrder32Wrong : ChangeSpec := { name := "fnOrder32", fn := fun _ => fun
  | [d1, d2] => { results := [.lit (.bool false)], args := [d1, d2] }
  | _ => none }
def FnOrder32WrongFalsely : Prop := fnOrder32Row.holds Try.pinned (OpenSpec.ofChange fnOrder32Wrong)

/-- 'laws.FnBack32': WHATEVER THE INPUT: true; the input reads as it did. -/
def fnBack32Spec : ChangeSpec := { name := "fnBack32", fn := fun _ => fun
  | [d] => { results := [.lit (.bool true)], args := [d] }
  | _ => none }
def fnBack32Row : OpenClaim := { program := "ytfjophnfjfphgaa", sum := "7d18c389f20dfdf84b124263b8b8c684d970ce9bdb5cd0a2f996ab049a6f2d85", func := "loop.example/lib-floatforms/laws.FnBack32", spec := "fnBack32", inPlace := ["math.Float32frombits", "math.Float32bits"], apart := false }
def FnBack32Said : Prop := fnBack32Row.holds Try.pinned (OpenSpec.ofChange fnBack32Spec)

/-- ITS FALSE NEIGHBOUR: 'it returns false'. Refute it at one input. -/
def fnBack32Wrong : ChangeSpec := { name := "fnBack32", fn := fun _ => fun
  | [d] => { results := [.lit (.bool false)], args := [d] }
  | _ => none }
def FnBack32WrongFalsely : Prop := fnBack32Row.holds Try.pinned (OpenSpec.ofChange fnBack32Wrong)

/-- 'laws.FnBack64': WHATEVER THE INPUT: true; the input reads as it did. -/
def fnBack64Spec : ChangeSpec := { name := "fnBack64", fn := fun _ => fun
  | [d] => { results := [.lit (.bool true)], args := [d] }
  | _ => none }
def fnBack64Row : OpenClaim := { program := "ytfjophnfjfphgaa", sum := "7d18c389f20dfdf84b124263b8b8c684d970ce9bdb5cd0a2f996ab049a6f2d85", func := "loop.example/lib-floatforms/laws.FnBack64", spec := "fnBack64", inPlace := ["math.Float64frombits", "math.Float64bits"], apart := false }
def FnBack64Said : Prop := fnBack64Row.holds Try.pinned (OpenSpec.ofChange fnBack64Spec)

/-- ITS FALSE NEIGHBOUR: 'it returns false'. Refute it at one input. -/
def fnBack64Wrong : ChangeSpec := { name := "fnBack64", fn := fun _ => fun
  | [d] => { results := [.lit (.bool false)], args := [d] }
  | _ => none }
def FnBack64WrongFalsely : Prop := fnBack64Row.holds Try.pinned (OpenSpec.ofChange fnBack64Wrong)

/-- 'laws.FnForth32': WHATEVER THE INPUT: true; the input reads as it did. -/
def fnForth32Spec : ChangeSpec := { name := "fnForth32", fn := fun _ => fun
  | [d] => { results := [.lit (.bool true)], args := [d] }
  | _ => none }
def fnForth32Row : OpenClaim := { program := "ytfjophnfjfphgaa", sum := "7d18c389f20dfdf84b124263b8b8c684d970ce9bdb5cd0a2f996ab049a6f2d85", func := "loop.example/lib-floatforms/laws.FnForth32", spec := "fnForth32", inPlace := ["math.Float32bits", "math.Float32frombits"], apart := false }
def FnForth32Said : Prop := fnForth32Row.holds Try.pinned (OpenSpec.ofChange fnForth32Spec)

/-- ITS FALSE NEIGHBOUR: 'it returns false'. Refute it at one input. -/
def fnForth32Wrong : ChangeSpec := { name := "fnForth32", fn := fun _ => fun
  | [d] => { results := [.lit (.bool false)], args := [d] }
  | _ => none }
def FnForth32WrongFalsely : Prop := fnForth32Row.holds Try.pinned (OpenSpec.ofChange fnForth32Wrong)

/-- 'laws.FnForth64': WHATEVER THE INPUT: true; the input reads as it did. -/
def fnForth64Spec : ChangeSpec := { name := "fnForth64", fn := fun _ => fun
  | [d] => { results := [.lit (.bool true)], args := [d] }
  | _ => none }
def fnForth64Row : OpenClaim := { program := "ytfjophnfjfphgaa", sum := "7d18c389f20dfdf84b124263b8b8c684d970ce9bdb5cd0a2f996ab049a6f2d85", func := "loop.example/lib-floatforms/laws.FnForth64", spec := "fnForth64", inPlace := ["math.Float64bits", "math.Float64frombits"], apart := false }
def FnForth64Said : Prop := fnForth64Row.holds Try.pinned (OpenSpec.ofChange fnForth64Spec)

/-- ITS FALSE NEIGHBOUR: 'it returns false'. Refute it at one input. -/
def fnForth64Wrong : ChangeSpec := { name := "fnForth64", fn := fun _ => fun
  | [d] => { results := [.lit (.bool false)], args := [d] }
  | _ => none }
def FnForth64WrongFalsely : Prop := fnForth64Row.holds Try.pinned (OpenSpec.ofChange fnForth64Wrong)

/-- 'laws.FnWiden': WHATEVER THE INPUT: true; the input reads as it did. -/
def fnWidenSpec : ChangeSpec := { name := "fnWiden", fn := fun _ => fun
  | [d] => { results := [.lit (.bool true)], args := [d] }
  | _ => none }
def fnWidenRow : OpenClaim := { program := "ytfjophnfjfphgaa", sum := "7d18c389f20dfdf84b124263b8b8c684d970ce9bdb5cd0a2f996ab049a6f2d85", func := "loop.example/lib-floatforms/laws.FnWiden", spec := "fnWiden", inPlace := ["math.Float32bits", "math.Float32frombits", "math.Float64bits"], apart := false }
def FnWidenSaid : Prop := fnWidenRow.holds Try.pinned (OpenSpec.ofChange fnWidenSpec)

/-- ITS FALSE NEIGHBOUR: 'it returns false'. Refute it at one input. -/
def fnWidenWrong : ChangeSpec := { name := "fnWiden", fn := fun _ => fun
  | [d] => { results := [.lit (.bool false)], args := [d] }
  | _ => none }
def FnWidenWrongFalsely : Prop := fnWidenRow.holds Try.pinned (OpenSpec.ofChange fnWidenWrong)

/- THE SECOND FORM. 'bulk': how many values and letters a reading holds, each counted each time it is reached (what is shared counts as often as it is met; a slice's spare places count too). A statement '..UptoSaid' is the law's where the arguments, and the package variables that the reading takes, are together of bulk at most 1048576: NARROWER than '..Said'. Prove '..Said' where nothing that the law and all that it calls make is longer than what came in: it says more and counts as full. Else prove '..UptoSaid'. A law counts once. -/
mutual
def uptoBulk {H : Type} : DataW H → Nat
  | .lit (.string bytes) => bytes.length + 1
  | .lit _ => 1
  | .nil => 1
  | .ptr d => uptoBulk d + 1
  | .slice elems spare => uptoBulkAll elems + uptoBulkAll spare + 1
  | .agg parts => uptoBulkAll parts + 1
  | .iface _ d => uptoBulk d + 1
  | .map entries => uptoBulkEntries entries + 1
  | .held _ => 1
def uptoBulkAll {H : Type} : List (DataW H) → Nat
  | [] => 0
  | d :: r => uptoBulk d + uptoBulkAll r
def uptoBulkEntries {H : Type} : List (Lit × DataW H) → Nat
  | [] => 0
  | x :: r => uptoBulkEntry x + uptoBulkEntries r
def uptoBulkEntry {H : Type} : Lit × DataW H → Nat
  | (.string bytes, d) => bytes.length + uptoBulk d + 1
  | (_, d) => uptoBulk d + 1
 end
def uptoSmall : (H : Type) → List (DataW H) → Bool := fun _ ds => decide (uptoBulkAll ds ≤ 1048576)
def OpenSpec.upto (s : _root_.Go.ChangeSpec) : _root_.Go.OpenSpec := { _root_.Go.OpenSpec.ofChange s with cond := some uptoSmall }

/-- 'laws.FnExactFloat32bits', WHERE WHAT IT READS IS OF BULK AT MOST 1048576: true; the input reads as it did. -/
def fnExactFloat32bitsUptoRow : OpenClaim := { program := "ytfjophnfjfphgaa", sum := "7d18c389f20dfdf84b124263b8b8c684d970ce9bdb5cd0a2f996ab049a6f2d85", func := "loop.example/lib-floatforms/laws.FnExactFloat32bits", spec := "fnExactFloat32bits", inPlace := ["math.Float32bits"], apart := false, narrowed := true }
def FnExactFloat32bitsUptoSaid : Prop := fnExactFloat32bitsUptoRow.holds Try.pinned (OpenSpec.upto fnExactFloat32bitsSpec)

/-- 'laws.FnExactFloat32frombits', WHERE WHAT IT READS IS OF BULK AT MOST 1048576: true; the input reads as it did. -/
def fnExactFloat32frombitsUptoRow : OpenClaim := { program := "ytfjophnfjfphgaa", sum := "7d18c389f20dfdf84b124263b8b8c684d970ce9bdb5cd0a2f996ab049a6f2d85", func := "loop.example/lib-floatforms/laws.FnExactFloat32frombits", spec := "fnExactFloat32frombits", inPlace := ["math.Float32frombits"], apart := false, narrowed := true }
def FnExactFloat32frombitsUptoSaid : Prop := fnExactFloat32frombitsUptoRow.holds Try.pinned (OpenSpec.upto fnExactFloat32frombitsSpec)

/-- 'laws.FnExactFloat64bits', WHERE WHAT IT READS IS OF BULK AT MOST 1048576: true; the input reads as it did. -/
def fnExactFloat64bitsUptoRow : OpenClaim := { program := "ytfjophnfjfphgaa", sum := "7d18c389f20dfdf84b124263b8b8c684d970ce9bdb5cd0a2f996ab049a6f2d85", func := "loop.example/lib-floatforms/laws.FnExactFloat64bits", spec := "fnExactFloat64bits", inPlace := ["math.Float64bits"], apart := false, narrowed := true }
def FnExactFloat64bitsUptoSaid : Prop := fnExactFloat64bitsUptoRow.holds Try.pinned (OpenSpec.upto fnExactFloat64bitsSpec)

/-- 'laws.FnExactFloat64frombits', WHERE WHAT IT READS IS OF BULK AT MOST 1048576: true; the input reads as it did. -/
def fnExactFloat64frombitsUptoRow : OpenClaim := { program := "ytfjophnfjfphgaa", sum := "7d18c389f20dfdf84b124263b8b8c684d970ce9bdb5cd0a2f996ab049a6f2d85", func := "loop.example/lib-floatforms/laws.FnExactFloat64frombits", spec := "fnExactFloat64frombits", inPlace := ["math.Float64frombits"], apart := false, narrowed := true }
def FnExactFloat64frombitsUptoSaid : Prop := fnExactFloat64frombitsUptoRow.holds Try.pinned (OpenSpec.upto fnExactFloat64frombitsSpec)

/-- 'laws.FnNext', WHERE WHAT IT READS IS OF BULK AT MOST 1048576: true; the input reads as it did. -/
def fnNextUptoRow : OpenClaim := { program := "ytfjophnfjfphgaa", sum := "7d18c389f20dfdf84b124263b8b8c684d970ce9bdb5cd0a2f996ab049a6f2d85", func := "loop.example/lib-floatforms/laws.FnNext", spec := "fnNext", inPlace := ["math.Float64frombits"], apart := false, narrowed := true }
def FnNextUptoSaid : Prop := fnNextUptoRow.holds Try.pinned (OpenSpec.upto fnNextSpec)

/-- 'laws.FnOrder', WHERE WHAT IT READS IS OF BULK AT MOST 1048576: true; the input reads as it did. -/
def fnOrderUptoRow : OpenClaim := { program := "ytfjophnfjfphgaa", sum := "7d18c389f20dfdf84b124263b8b8c684d970ce9bdb5cd0a2f996ab049a6f2d85", func := "loop.example/lib-floatforms/laws.FnOrder", spec := "fnOrder", inPlace := ["math.Float64frombits"], apart := false, narrowed := true }
def FnOrderUptoSaid : Prop := fnOrderUptoRow.holds Try.pinned (OpenSpec.upto fnOrderSpec)

/-- 'laws.FnOrder32', WHERE WHAT IT READS IS OF BULK AT MOST 1048576: true; the input reads as it did. -/
def fnOrder32UptoRow : OpenClaim := { program := "ytfjophnfjfphgaa", sum := "7d18c389f20dfdf84b124263b8b8c684d970ce9bdb5cd0a2f996ab049a6f2d85", func := "loop.example/lib-floatforms/laws.FnOrder32", spec := "fnOrder32", inPlace := ["math.Float32frombits"], apart := false, narrowed := true }
def FnOrder32UptoSaid : Prop := fnOrder32UptoRow.holds Try.pinned (OpenSpec.upto fnOrder32Spec)

/-- 'laws.FnBack32', WHERE WHAT IT READS IS OF BULK AT MOST 1048576: true; the input reads as it did. -/
def fnBack32UptoRow : OpenClaim := { program := "ytfjophnfjfphgaa", sum := "7d18c389f20dfdf84b124263b8b8c684d970ce9bdb5cd0a2f996ab049a6f2d85", func := "loop.example/lib-floatforms/laws.FnBack32", spec := "fnBack32", inPlace := ["math.Float32frombits", "math.Float32bits"], apart := false, narrowed := true }
def FnBack32UptoSaid : Prop := fnBack32UptoRow.holds Try.pinned (OpenSpec.upto fnBack32Spec)

/-- 'laws.FnBack64', WHERE WHAT IT READS IS OF BULK AT MOST 1048576: true; the input reads as it did. -/
def fnBack64UptoRow : OpenClaim := { program := "ytfjophnfjfphgaa", sum := "7d18c389f20dfdf84b124263b8b8c684d970ce9bdb5cd0a2f996ab049a6f2d85", func := "loop.example/lib-floatforms/laws.FnBack64", spec := "fnBack64", inPlace := ["math.Float64frombits", "math.Float64bits"], apart := false, narrowed := true }
def FnBack64UptoSaid : Prop := fnBack64UptoRow.holds Try.pinned (OpenSpec.upto fnBack64Spec)

/-- 'laws.FnForth32', WHERE WHAT IT READS IS OF BULK AT MOST 1048576: true; the input reads as it did. -/
def fnForth32UptoRow : OpenClaim := { program := "ytfjophnfjfphgaa", sum := "7d18c389f20dfdf84b124263b8b8c684d970ce9bdb5cd0a2f996ab049a6f2d85", func := "loop.example/lib-floatforms/laws.FnForth32", spec := "fnForth32", inPlace := ["math.Float32bits", "math.Float32frombits"], apart := false, narrowed := true }
def FnForth32UptoSaid : Prop := fnForth32UptoRow.holds Try.pinned (OpenSpec.upto fnForth32Spec)

/-- 'laws.FnForth64', WHERE WHAT IT READS IS OF BULK AT MOST 1048576: true; the input reads as it did. -/
def fnForth64UptoRow : OpenClaim := { program := "ytfjophnfjfphgaa", sum := "7d18c389f20dfdf84b124263b8b8c684d970ce9bdb5cd0a2f996ab049a6f2d85", func := "loop.example/lib-floatforms/laws.FnForth64", spec := "fnForth64", inPlace := ["math.Float64bits", "math.Float64frombits"], apart := false, narrowed := true }
def FnForth64UptoSaid : Prop := fnForth64UptoRow.holds Try.pinned (OpenSpec.upto fnForth64Spec)

/-- 'laws.FnWiden', WHERE WHAT IT READS IS OF BULK AT MOST 1048576: true; the input reads as it did. -/
def fnWidenUptoRow : OpenClaim := { program := "ytfjophnfjfphgaa", sum := "7d18c389f20dfdf84b124263b8b8c684d970ce9bdb5cd0a2f996ab049a6f2d85", func := "loop.example/lib-floatforms/laws.FnWiden", spec := "fnWiden", inPlace := ["math.Float32bits", "math.Float32frombits", "math.Float64bits"], apart := false, narrowed := true }
def FnWidenUptoSaid : Prop := fnWidenUptoRow.holds Try.pinned (OpenSpec.upto fnWidenSpec)

end Rows
end Go.Proofs.Ytfjophnfjfphgaa
