/-
  No cell of these rows narrows 'for every input' (looked for: loops, veiled, ifaces, maps, wideKeys, modest, calm, conditions, laid).
  DERIVED. THE GIVEN ROWS OF THIS SEAT. 12 by the template 'for every input the law returns true; each argument reads behind the call as it read before'; 0 by the template 'total and deterministic' (their statements: YtnjcfcnmibadcaaTotals.lean).
  GIVEN WITH THE SEED: the statements are not yours to turn. If you find one false, say at which input.
  Laid BY PROGRAM, IN A SANDBOX (cutbox-rows.mjs): the forced cells as the released guide's own fill.sh prints them over the translation aeb834be6fbb5d6f… (all of the seat's roots in one cut). By AI agents, Wed Nov 11 2026. No macro, syntax, notation, axiom, sorry.
-/
import Derived.Test.YtnjcfcnmibadcaaChecked
import GoSem.Claim
import GoSem.ClaimJoined
import GoSem.ClaimMapViews
import Derived.JoinedTies
import Derived.KernelRfl
namespace Go.Proofs.Ytnjcfcnmibadcaa
/- THE CELL 'sum', in the pinned program and in every row, IS THE sha256 OF THE DUMP (.gsa) THAT YtnjcfcnmibadcaaProg.lean LOADS. Nothing in Lean hashes anything: it is a label: what it is worth is what the hold of that sum in a sandbox is worth. -/
noncomputable def Try.pinned : Pinned := { name := "ytnjcfcnmibadcaa", sum := "aeb834be6fbb5d6f135d2a77f45d174a2b8f8d0c833e4191da5c40415dadf3a4", checked := Try.checked }
namespace Rows
def none {H : Type} : Left H := { results := [], args := [] }

/-- 'laws.FnExactTrunc': WHATEVER THE INPUT: true; the input reads as it did. -/
def fnExactTruncSpec : ChangeSpec := { name := "fnExactTrunc", fn := fun _ => fun
  | [d] => { results := [.lit (.bool true)], args := [d] }
  | _ => none }
def fnExactTruncRow : OpenClaim := { program := "ytnjcfcnmibadcaa", sum := "aeb834be6fbb5d6f135d2a77f45d174a2b8f8d0c833e4191da5c40415dadf3a4", func := "loop.example/lib-g01186/laws.FnExactTrunc", spec := "fnExactTrunc", inPlace := ["math.archTrunc", "math.Float64bits", "math.Float64frombits"], apart := false }
def FnExactTruncSaid : Prop := fnExactTruncRow.holds Try.pinned (OpenSpec.ofChange fnExactTruncSpec)

/-- ITS FALSE NEIGHBOUR: 'it returns false'. Refute it at one input. -/
def fnExactTruncWrong : ChangeSpec := { name := "fnExactTrunc", fn := fun _ => fun
  | [d] => { results := [.lit (.bool false)], args := [d] }
  | _ => none }
def FnExactTruncWrongFalsely : Prop := fnExactTruncRow.holds Try.pinned (OpenSpec.ofChange fnExactTruncWrong)

/-- 'laws.FnTruncValue': WHATEVER THE INPUT: true; the input reads as it did. -/
def fnTruncValueSpec : ChangeSpec := { name := "fnTruncValue", fn := fun _ => fun
  | [d] => { results := [.lit (.bool true)], args := [d] }
  | _ => none }
def fnTruncValueRow : OpenClaim := { program := "ytnjcfcnmibadcaa", sum := "aeb834be6fbb5d6f135d2a77f45d174a2b8f8d0c833e4191da5c40415dadf3a4", func := "loop.example/lib-g01186/laws.FnTruncValue", spec := "fnTruncValue", inPlace := ["math.archTrunc", "math.Float64bits", "math.Float64frombits"], apart := false }
def FnTruncValueSaid : Prop := fnTruncValueRow.holds Try.pinned (OpenSpec.ofChange fnTruncValueSpec)

/-- ITS FALSE NEIGHBOUR: 'it returns false'. Refute it at one input. -/
def fnTruncValueWrong : ChangeSpec := { name := "fnTruncValue", fn := fun _ => fun
  | [d] => { results := [.lit (.bool false)], args := [d] }
  | _ => none }
def FnTruncValueWrongFalsely : Prop := fnTruncValueRow.holds Try.pinned (OpenSpec.ofChange fnTruncValueWrong)

/-- 'laws.FnExactRound': WHATEVER THE INPUT: true; the input reads as it did. -/
def fnExactRoundSpec : ChangeSpec := { name := "fnExactRound", fn := fun _ => fun
  | [d] => { results := [.lit (.bool true)], args := [d] }
  | _ => none }
def fnExactRoundRow : OpenClaim := { program := "ytnjcfcnmibadcaa", sum := "aeb834be6fbb5d6f135d2a77f45d174a2b8f8d0c833e4191da5c40415dadf3a4", func := "loop.example/lib-g01186/laws.FnExactRound", spec := "fnExactRound", inPlace := ["math.Float64bits", "math.Float64frombits"], apart := false }
def FnExactRoundSaid : Prop := fnExactRoundRow.holds Try.pinned (OpenSpec.ofChange fnExactRoundSpec)

/-- ITS FALSE NEIGHBOUR: 'it returns false'. Refute it at one input. -/
def fnExactRoundWrong : ChangeSpec := { name := "fnExactRound", fn := fun _ => fun
  | [d] => { results := [.lit (.bool false)], args := [d] }
  | _ => none }
def FnExactRoundWrongFalsely : Prop := fnExactRoundRow.holds Try.pinned (OpenSpec.ofChange fnExactRoundWrong)

/-- 'laws.FnRoundValue': WHATEVER THE INPUT: true; the input reads as it did. -/
def fnRoundValueSpec : ChangeSpec := { name := "fnRoundValue", fn := fun _ => fun
  | [d] => { results := [.lit (.bool true)], args := [d] }
  | _ => none }
def fnRoundValueRow : OpenClaim := { program := "ytnjcfcnmibadcaa", sum := "aeb834be6fbb5d6f135d2a77f45d174a2b8f8d0c833e4191da5c40415dadf3a4", func := "loop.example/lib-g01186/laws.FnRoundValue", spec := "fnRoundValue", inPlace := ["math.Float64bits", "math.Float64frombits"], apart := false }
def FnRoundValueSaid : Prop := fnRoundValueRow.holds Try.pinned (OpenSpec.ofChange fnRoundValueSpec)

/-- ITS FALSE NEIGHBOUR: 'it returns false'. Refute it at one input. -/
def fnRoundValueWrong : ChangeSpec := { name := "fnRoundValue", fn := fun _ => fun
  | [d] => { results := [.lit (.bool false)], args := [d] }
  | _ => none }
def FnRoundValueWrongFalsely : Prop := fnRoundValueRow.holds Try.pinned (OpenSpec.ofChange fnRoundValueWrong)

/-- 'laws.FnExactRoundToEven': WHATEVER THE INPUT: true; the input reads as it did. -/
def fnExactRoundToEvenSpec : ChangeSpec := { name := "fnExactRoundToEven", fn := fun _ => fun
  | [d] => { results := [.lit (.bool true)], args := [d] }
  | _ => none }
def fnExactRoundToEvenRow : OpenClaim := { program := "ytnjcfcnmibadcaa", sum := "aeb834be6fbb5d6f135d2a77f45d174a2b8f8d0c833e4191da5c40415dadf3a4", func := "loop.example/lib-g01186/laws.FnExactRoundToEven", spec := "fnExactRoundToEven", inPlace := ["math.RoundToEven"], apart := false }
def FnExactRoundToEvenSaid : Prop := fnExactRoundToEvenRow.holds Try.pinned (OpenSpec.ofChange fnExactRoundToEvenSpec)

/-- ITS FALSE NEIGHBOUR: 'it returns false'. Refute it at one input. -/
def fnExactRoundToEvenWrong : ChangeSpec := { name := "fnExactRoundToEven", fn := fun _ => fun
  | [d] => { results := [.lit (.bool false)], args := [d] }
  | _ => none }
def FnExactRoundToEvenWrongFalsely : Prop := fnExactRoundToEvenRow.holds Try.pinned (OpenSpec.ofChange fnExactRoundToEvenWrong)

/-- 'laws.FnRoundToEvenValue': WHATEVER THE INPUT: true; the input reads as it did. -/
def fnRoundToEvenValueSpec : ChangeSpec := { name := "fnRoundToEvenValue", fn := fun _ => fun
  | [d] => { results := [.lit (.bool true)], args := [d] }
  | _ => none }
def fnRoundToEvenValueRow : OpenClaim := { program := "ytnjcfcnmibadcaa", sum := "aeb834be6fbb5d6f135d2a77f45d174a2b8f8d0c833e4191da5c40415dadf3a4", func := "loop.example/lib-g01186/laws.FnRoundToEvenValue", spec := "fnRoundToEvenValue", inPlace := ["math.RoundToEven"], apart := false }
def FnRoundToEvenValueSaid : Prop := fnRoundToEvenValueRow.holds Try.pinned (OpenSpec.ofChange fnRoundToEvenValueSpec)

/-- ITS FALSE NEIGHBOUR: 'it returns false'. Refute it at one input. -/
def fnRoundToEvenValueWrong : ChangeSpec := { name := "fnRoundToEvenValue", fn := fun _ => fun
  | [d] => { results := [.lit (.bool false)], args := [d] }
  | _ => none }
def FnRoundToEvenValueWrongFalsely : Prop := fnRoundToEvenValueRow.holds Try.pinned (OpenSpec.ofChange fnRoundToEvenValueWrong)

/-- 'laws.FnExactModf': WHATEVER THE INPUT: true; the input reads as it did. -/
def fnExactModfSpec : ChangeSpec := { name := "fnExactModf", fn := fun _ => fun
  | [d] => { results := [.lit (.bool true)], args := [d] }
  | _ => none }
def fnExactModfRow : OpenClaim := { program := "ytnjcfcnmibadcaa", sum := "aeb834be6fbb5d6f135d2a77f45d174a2b8f8d0c833e4191da5c40415dadf3a4", func := "loop.example/lib-g01186/laws.FnExactModf", spec := "fnExactModf", inPlace := ["math.archTrunc", "math.Float64bits", "math.Float64frombits"], apart := false }
def FnExactModfSaid : Prop := fnExactModfRow.holds Try.pinned (OpenSpec.ofChange fnExactModfSpec)

/-- ITS FALSE NEIGHBOUR: 'it returns false'. Refute it at one input. -/
def fnExactModfWrong : ChangeSpec := { name := "fnExactModf", fn := fun _ => fun
  | [d] => { results := [.lit (.bool false)], args := [d] }
  | _ => none }
def FnExactModfWrongFalsely : Prop := fnExactModfRow.holds Try.pinned (OpenSpec.ofChange fnExactModfWrong)

/-- 'laws.FnModfAgain': WHATEVER THE INPUT: true; the input reads as it did. -/
def fnModfAgainSpec : ChangeSpec := { name := "fnModfAgain", fn := fun _ => fun
  | [d] => { results := [.lit (.bool true)], args := [d] }
  | _ => none }
def fnModfAgainRow : OpenClaim := { program := "ytnjcfcnmibadcaa", sum := "aeb834be6fbb5d6f135d2a77f45d174a2b8f8d0c833e4191da5c40415dadf3a4", func := "loop.example/lib-g01186/laws.FnModfAgain", spec := "fnModfAgain", inPlace := ["math.archTrunc", "math.Float64bits", "math.Float64frombits"], apart := false }
def FnModfAgainSaid : Prop := fnModfAgainRow.holds Try.pinned (OpenSpec.ofChange fnModfAgainSpec)

/-- ITS FALSE NEIGHBOUR: 'it returns false'. Refute it at one input. -/
def fnModfAgainWrong : ChangeSpec := { name := "fnModfAgain", fn := fun _ => fun
  | [d] => { results := [.lit (.bool false)], args := [d] }
  | _ => none }
def FnModfAgainWrongFalsely : Prop := fnModfAgainRow.holds Try.pinned (OpenSpec.ofChange fnModfAgainWrong)

/-- 'laws.FnModfSum': WHATEVER THE INPUT: true; the input reads as it did. -/
def fnModfSumSpec : ChangeSpec := { name := "fnModfSum", fn := fun _ => fun
  | [d] => { results := [.lit (.bool true)], args := [d] }
  | _ => none }
def fnModfSumRow : OpenClaim := { program := "ytnjcfcnmibadcaa", sum := "aeb834be6fbb5d6f135d2a77f45d174a2b8f8d0c833e4191da5c40415dadf3a4", func := "loop.example/lib-g01186/laws.FnModfSum", spec := "fnModfSum", inPlace := ["math.archTrunc", "math.Float64bits", "math.Float64frombits"], apart := false }
def FnModfSumSaid : Prop := fnModfSumRow.holds Try.pinned (OpenSpec.ofChange fnModfSumSpec)

/-- ITS FALSE NEIGHBOUR: 'it returns false'. Refute it at one input. -/
def fnModfSumWrong : ChangeSpec := { name := "fnModfSum", fn := fun _ => fun
  | [d] => { results := [.lit (.bool false)], args := [d] }
  | _ => none }
def FnModfSumWrongFalsely : Prop := fnModfSumRow.holds Try.pinned (OpenSpec.ofChange fnModfSumWrong)

/-- 'laws.FnExactFloor': WHATEVER THE INPUT: true; the input reads as it did. -/
def fnExactFloorSpec : ChangeSpec := { name := "fnExactFloor", fn := fun _ => fun
  | [d] => { results := [.lit (.bool true)], args := [d] }
  | _ => none }
def fnExactFloorRow : OpenClaim := { program := "ytnjcfcnmibadcaa", sum := "aeb834be6fbb5d6f135d2a77f45d174a2b8f8d0c833e4191da5c40415dadf3a4", func := "loop.example/lib-g01186/laws.FnExactFloor", spec := "fnExactFloor", inPlace := ["math.archFloor", "math.Float64bits", "math.Float64frombits", "math.archTrunc"], apart := false }
def FnExactFloorSaid : Prop := fnExactFloorRow.holds Try.pinned (OpenSpec.ofChange fnExactFloorSpec)

/-- ITS FALSE NEIGHBOUR: 'it returns false'. Refute it at one input. -/
def fnExactFloorWrong : ChangeSpec := { name := "fnExactFloor", fn := fun _ => fun
  | [d] => { results := [.lit (.bool false)], args := [d] }
  | _ => none }
def FnExactFloorWrongFalsely : Prop := fnExactFloorRow.holds Try.pinned (OpenSpec.ofChange fnExactFloorWrong)

/-- 'laws.FnFloorValue': WHATEVER THE INPUT: true; the input reads as it did. -/
def fnFloorValueSpec : ChangeSpec := { name := "fnFloorValue", fn := fun _ => fun
  | [d] => { results := [.lit (.bool true)], args := [d] }
  | _ => none }
def fnFloorValueRow : OpenClaim := { program := "ytnjcfcnmibadcaa", sum := "aeb834be6fbb5d6f135d2a77f45d174a2b8f8d0c833e4191da5c40415dadf3a4", func := "loop.example/lib-g01186/laws.FnFloorValue", spec := "fnFloorValue", inPlace := ["math.archFloor", "math.Float64bits", "math.Float64frombits", "math.archTrunc"], apart := false }
def FnFloorValueSaid : Prop := fnFloorValueRow.holds Try.pinned (OpenSpec.ofChange fnFloorValueSpec)

/-- ITS FALSE NEIGHBOUR: 'it returns false'. Refute it at one input. -/
def fnFloorValueWrong : ChangeSpec := { name := "fnFloorValue", fn := fun _ => fun
  | [d] => { results := [.lit (.bool false)], args := [d] }
  | _ => none }
def FnFloorValueWrongFalsely : Prop := fnFloorValueRow.holds Try.pinned (OpenSpec.ofChange fnFloorValueWrong)

/-- 'laws.FnCeilValue': WHATEVER THE INPUT: true; the input reads as it did. -/
def fnCeilValueSpec : ChangeSpec := { name := "fnCeilValue", fn := fun _ => fun
  | [d] => { results := [.lit (.bool true)], args := [d] }
  | _ => none }
def fnCeilValueRow : OpenClaim := { program := "ytnjcfcnmibadcaa", sum := "aeb834be6fbb5d6f135d2a77f45d174a2b8f8d0c833e4191da5c40415dadf3a4", func := "loop.example/lib-g01186/laws.FnCeilValue", spec := "fnCeilValue", inPlace := ["math.archCeil", "math.archFloor", "math.Float64bits", "math.Float64frombits", "math.archTrunc"], apart := false }
def FnCeilValueSaid : Prop := fnCeilValueRow.holds Try.pinned (OpenSpec.ofChange fnCeilValueSpec)

/-- ITS FALSE NEIGHBOUR: 'it returns false'. Refute it at one input. -/
def fnCeilValueWrong : ChangeSpec := { name := "fnCeilValue", fn := fun _ => fun
  | [d] => { results := [.lit (.bool false)], args := [d] }
  | _ => none }
def FnCeilValueWrongFalsely : Prop := fnCeilValueRow.holds Try.pinned (OpenSpec.ofChange fnCeilValueWrong)

/- THE SECOND FORM. 'bulk': how many values and letters a reading holds, each counted each time it is reached (what is shared counts as often as it is met; a slice's spare places count too). A statement '..UptoSaid' is the law's where the arguments, and the package variables that the reading takes, are together of bulk at most 1048576: NARROWER than '..Said'. Prove '..Said' where nothing that the law and all that it calls make is longer than what came in: it says more and counts as full. Else prove '..UptoSaid'. A law counts once. -/
mutual
def uptoBulk {H : Type} : DataW H → Nat
  | .lit (.string bytes) => bytes.length + 1
  | .lit _ => 1
  | .nil => 1
  | .ptr d => uptoBulk d + 1
  | .slice elems spare => uptoBulkAll elems + uptoBulkAll spare + 1
  | .agg parts => uptoBulkAll parts + 1
  | .iface _ d => uptoBulk d + 1
  | .map entries => uptoBulkEntries entries + 1
  | .held _ => 1
def uptoBulkAll {H : Type} : List (DataW H) → Nat
  | [] => 0
  | d :: r => uptoBulk d + uptoBulkAll r
def uptoBulkEntries {H : Type} : List (Lit × DataW H) → Nat
  | [] => 0
  | x :: r => uptoBulkEntry x + uptoBulkEntries r
def uptoBulkEntry {H : Type} : Lit × DataW H → Nat
  | (.string bytes, d) => bytes.length + uptoBulk d + 1
  | (_, d) => uptoBulk d + 1
 end
def uptoSmall : (H : Type) → List (DataW H) → Bool := fun _ ds => decide (uptoBulkAll ds ≤ 1048576)
def OpenSpec.upto (s : _root_.Go.ChangeSpec) : _root_.Go.OpenSpec := { _root_.Go.OpenSpec.ofChange s with cond := some uptoSmall }

/-- 'laws.FnExactTrunc', WHERE WHAT IT READS IS OF BULK AT MOST 1048576: true; the input reads as it did. -/
def fnExactTruncUptoRow : OpenClaim := { program := "ytnjcfcnmibadcaa", sum := "aeb834be6fbb5d6f135d2a77f45d174a2b8f8d0c833e4191da5c40415dadf3a4", func := "loop.example/lib-g01186/laws.FnExactTrunc", spec := "fnExactTrunc", inPlace := ["math.archTrunc", "math.Float64bits", "math.Float64frombits"], apart := false, narrowed := true }
def FnExactTruncUptoSaid : Prop := fnExactTruncUptoRow.holds Try.pinned (OpenSpec.upto fnExactTruncSpec)

/-- 'laws.FnTruncValue', WHERE WHAT IT READS IS OF BULK AT MOST 1048576: true; the input reads as it did. -/
def fnTruncValueUptoRow : OpenClaim := { program := "ytnjcfcnmibadcaa", sum := "aeb834be6fbb5d6f135d2a77f45d174a2b8f8d0c833e4191da5c40415dadf3a4", func := "loop.example/lib-g01186/laws.FnTruncValue", spec := "fnTruncValue", inPlace := ["math.archTrunc", "math.Float64bits", "math.Float64frombits"], apart := false, narrowed := true }
def FnTruncValueUptoSaid : Prop := fnTruncValueUptoRow.holds Try.pinned (OpenSpec.upto fnTruncValueSpec)

/-- 'laws.FnExactRound', WHERE WHAT IT READS IS OF BULK AT MOST 1048576: true; the input reads as it did. -/
def fnExactRoundUptoRow : OpenClaim := { program := "ytnjcfcnmibadcaa", sum := "aeb834be6fbb5d6f135d2a77f45d174a2b8f8d0c833e4191da5c40415dadf3a4", func := "loop.example/lib-g01186/laws.FnExactRound", spec := "fnExactRound", inPlace := ["math.Float64bits", "math.Float64frombits"], apart := false, narrowed := true }
def FnExactRoundUptoSaid : Prop := fnExactRoundUptoRow.holds Try.pinned (OpenSpec.upto fnExactRoundSpec)

/-- 'laws.FnRoundValue', WHERE WHAT IT READS IS OF BULK AT MOST 1048576: true; the input reads as it did. -/
def fnRoundValueUptoRow : OpenClaim := { program := "ytnjcfcnmibadcaa", sum := "aeb834be6fbb5d6f135d2a77f45d174a2b8f8d0c833e4191da5c40415dadf3a4", func := "loop.example/lib-g01186/laws.FnRoundValue", spec := "fnRoundValue", inPlace := ["math.Float64bits", "math.Float64frombits"], apart := false, narrowed := true }
def FnRoundValueUptoSaid : Prop := fnRoundValueUptoRow.holds Try.pinned (OpenSpec.upto fnRoundValueSpec)

/-- 'laws.FnExactRoundToEven', WHERE WHAT IT READS IS OF BULK AT MOST 1048576: true; the input reads as it did. -/
def fnExactRoundToEvenUptoRow : OpenClaim := { program := "ytnjcfcnmibadcaa", sum := "aeb834be6fbb5d6f135d2a77f45d174a2b8f8d0c833e4191da5c40415dadf3a4", func := "loop.example/lib-g01186/laws.FnExactRoundToEven", spec := "fnExactRoundToEven", inPlace := ["math.RoundToEven"], apart := false, narrowed := true }
def FnExactRoundToEvenUptoSaid : Prop := fnExactRoundToEvenUptoRow.holds Try.pinned (OpenSpec.upto fnExactRoundToEvenSpec)

/-- 'laws.FnRoundToEvenValue', WHERE WHAT IT READS IS OF BULK AT MOST 1048576: true; the input reads as it did. -/
def fnRoundToEvenValueUptoRow : OpenClaim := { program := "ytnjcfcnmibadcaa", sum := "aeb834be6fbb5d6f135d2a77f45d174a2b8f8d0c833e4191da5c40415dadf3a4", func := "loop.example/lib-g01186/laws.FnRoundToEvenValue", spec := "fnRoundToEvenValue", inPlace := ["math.RoundToEven"], apart := false, narrowed := true }
def FnRoundToEvenValueUptoSaid : Prop := fnRoundToEvenValueUptoRow.holds Try.pinned (OpenSpec.upto fnRoundToEvenValueSpec)

/-- 'laws.FnExactModf', WHERE WHAT IT READS IS OF BULK AT MOST 1048576: true; the input reads as it did. -/
def fnExactModfUptoRow : OpenClaim := { program := "ytnjcfcnmibadcaa", sum := "aeb834be6fbb5d6f135d2a77f45d174a2b8f8d0c833e4191da5c40415dadf3a4", func := "loop.example/lib-g01186/laws.FnExactModf", spec := "fnExactModf", inPlace := ["math.archTrunc", "math.Float64bits", "math.Float64frombits"], apart := false, narrowed := true }
def FnExactModfUptoSaid : Prop := fnExactModfUptoRow.holds Try.pinned (OpenSpec.upto fnExactModfSpec)

/-- 'laws.FnModfAgain', WHERE WHAT IT READS IS OF BULK AT MOST 1048576: true; the input reads as it did. -/
def fnModfAgainUptoRow : OpenClaim := { program := "ytnjcfcnmibadcaa", sum := "aeb834be6fbb5d6f135d2a77f45d174a2b8f8d0c833e4191da5c40415dadf3a4", func := "loop.example/lib-g01186/laws.FnModfAgain", spec := "fnModfAgain", inPlace := ["math.archTrunc", "math.Float64bits", "math.Float64frombits"], apart := false, narrowed := true }
def FnModfAgainUptoSaid : Prop := fnModfAgainUptoRow.holds Try.pinned (OpenSpec.upto fnModfAgainSpec)

/-- 'laws.FnModfSum', WHERE WHAT IT READS IS OF BULK AT MOST 1048576: true; the input reads as it did. -/
def fnModfSumUptoRow : OpenClaim := { program := "ytnjcfcnmibadcaa", sum := "aeb834be6fbb5d6f135d2a77f45d174a2b8f8d0c833e4191da5c40415dadf3a4", func := "loop.example/lib-g01186/laws.FnModfSum", spec := "fnModfSum", inPlace := ["math.archTrunc", "math.Float64bits", "math.Float64frombits"], apart := false, narrowed := true }
def FnModfSumUptoSaid : Prop := fnModfSumUptoRow.holds Try.pinned (OpenSpec.upto fnModfSumSpec)

/-- 'laws.FnExactFloor', WHERE WHAT IT READS IS OF BULK AT MOST 1048576: true; the input reads as it did. -/
def fnExactFloorUptoRow : OpenClaim := { program := "ytnjcfcnmibadcaa", sum := "aeb834be6fbb5d6f135d2a77f45d174a2b8f8d0c833e4191da5c40415dadf3a4", func := "loop.example/lib-g01186/laws.FnExactFloor", spec := "fnExactFloor", inPlace := ["math.archFloor", "math.Float64bits", "math.Float64frombits", "math.archTrunc"], apart := false, narrowed := true }
def FnExactFloorUptoSaid : Prop := fnExactFloorUptoRow.holds Try.pinned (OpenSpec.upto fnExactFloorSpec)

/-- 'laws.FnFloorValue', WHERE WHAT IT READS IS OF BULK AT MOST 1048576: true; the input reads as it did. -/
def fnFloorValueUptoRow : OpenClaim := { program := "ytnjcfcnmibadcaa", sum := "aeb834be6fbb5d6f135d2a77f45d174a2b8f8d0c833e4191da5c40415dadf3a4", func := "loop.example/lib-g01186/laws.FnFloorValue", spec := "fnFloorValue", inPlace := ["math.archFloor", "math.Float64bits", "math.Float64frombits", "math.archTrunc"], apart := false, narrowed := true }
def FnFloorValueUptoSaid : Prop := fnFloorValueUptoRow.holds Try.pinned (OpenSpec.upto fnFloorValueSpec)

/-- 'laws.FnCeilValue', WHERE WHAT IT READS IS OF BULK AT MOST 1048576: true; the input reads as it did. -/
def fnCeilValueUptoRow : OpenClaim := { program := "ytnjcfcnmibadcaa", sum := "aeb834be6fbb5d6f135d2a77f45d174a2b8f8d0c833e4191da5c40415dadf3a4", func := "loop.example/lib-g01186/laws.FnCeilValue", spec := "fnCeilValue", inPlace := ["math.archCeil", "math.archFloor", "math.Float64bits", "math.Float64frombits", "math.archTrunc"], apart := false, narrowed := true }
def FnCeilValueUptoSaid : Prop := fnCeilValueUptoRow.holds Try.pinned (OpenSpec.upto fnCeilValueSpec)

end Rows
end Go.Proofs.Ytnjcfcnmibadcaa
