/-
  No cell of these rows narrows 'for every input' (looked for: loops, veiled, ifaces, maps, wideKeys, modest, calm, conditions, laid).
  DERIVED. THE GIVEN ROWS OF THIS SEAT. 11 by the template 'for every input the law returns true; each argument reads behind the call as it read before'; 0 by the template 'total and deterministic' (their statements: YtaabgcncacdnoaaTotals.lean).
  GIVEN WITH THE SEED: the statements are not yours to turn. If you find one false, say at which input.
  Laid BY PROGRAM, IN A SANDBOX (cutbox-rows.mjs): the forced cells as the released guide's own fill.sh prints them over the translation e5ac37e6b9988b63… (all of the seat's roots in one cut). By AI agents, Wed Nov 11 2026. No macro, syntax, notation, axiom, sorry.
-/
import Derived.Test.YtaabgcncacdnoaaChecked
import GoSem.Claim
import GoSem.ClaimJoined
import GoSem.ClaimMapViews
import Derived.JoinedTies
import Derived.KernelRfl
namespace Go.Proofs.Ytaabgcncacdnoaa
/- THE CELL 'sum', in the pinned program and in every row, IS THE sha256 OF THE DUMP (.gsa) THAT YtaabgcncacdnoaaProg.lean LOADS. Nothing in Lean hashes anything: it is a label: what it is worth is what the hold of that sum in a sandbox is worth. -/
noncomputable def Try.pinned : Pinned := { name := "ytaabgcncacdnoaa", sum := "e5ac37e6b9988b63834e02f7a77626b8cb2fb7e7aa94381f8c257647869237cb", checked := Try.checked }
namespace Rows
def none {H : Type} : Left H := { results := [], args := [] }

/-- 'laws.FnExactCeil': WHATEVER THE INPUT: true; the input reads as it did. -/
def fnExactCeilSpec : ChangeSpec := { name := "fnExactCeil", fn := fun _ => fun
  | [d] => { results := [.lit (.bool true)], args := [d] }
  | _ => none }
def fnExactCeilRow : OpenClaim := { program := "ytaabgcncacdnoaa", sum := "e5ac37e6b9988b63834e02f7a77626b8cb2fb7e7aa94381f8c257647869237cb", func := "loop.example/lib-g01186/laws.FnExactCeil", spec := "fnExactCeil", inPlace := ["math.archCeil", "math.archFloor", "math.Float64bits", "math.Float64frombits", "math.archTrunc"], apart := false }
def FnExactCeilSaid : Prop := fnExactCeilRow.holds Try.pinned (OpenSpec.ofChange fnExactCeilSpec)

/-- ITS FALSE NEIGHBOUR: 'it returns false'. Refute it at one input. -/
def fnExactCeilWrong : ChangeSpec := { name := "fnExactCeil", fn := fun _ => fun
  | [d] => { results := [.lit (.bool false)], args := [d] }
  | _ => none }
def FnExactCeilWrongFalsely : Prop := fnExactCeilRow.holds Try.pinned (OpenSpec.ofChange fnExactCeilWrong)

/-- 'laws.FnCeilIsFloor': WHATEVER THE INPUT: true; the input reads as it did. -/
def fnCeilIsFloorSpec : ChangeSpec := { name := "fnCeilIsFloor", fn := fun _ => fun
  | [d] => { results := [.lit (.bool true)], args := [d] }
  | _ => none }
def fnCeilIsFloorRow : OpenClaim := { program := "ytaabgcncacdnoaa", sum := "e5ac37e6b9988b63834e02f7a77626b8cb2fb7e7aa94381f8c257647869237cb", func := "loop.example/lib-g01186/laws.FnCeilIsFloor", spec := "fnCeilIsFloor", inPlace := ["math.archCeil", "math.archFloor", "math.Float64bits", "math.Float64frombits", "math.archTrunc"], apart := false }
def FnCeilIsFloorSaid : Prop := fnCeilIsFloorRow.holds Try.pinned (OpenSpec.ofChange fnCeilIsFloorSpec)

/-- ITS FALSE NEIGHBOUR: 'it returns false'. Refute it at one input. -/
def fnCeilIsFloorWrong : ChangeSpec := { name := "fnCeilIsFloor", fn := fun _ => fun
  | [d] => { results := [.lit (.bool false)], args := [d] }
  | _ => none }
def FnCeilIsFloorWrongFalsely : Prop := fnCeilIsFloorRow.holds Try.pinned (OpenSpec.ofChange fnCeilIsFloorWrong)

/-- 'laws.FnRoundingsShift': WHATEVER THE INPUT: true; the input reads as it did. -/
def fnRoundingsShiftSpec : ChangeSpec := { name := "fnRoundingsShift", fn := fun _ => fun
  | [d1, d2] => { results := [.lit (.bool true)], args := [d1, d2] }
  | _ => none }
def fnRoundingsShiftRow : OpenClaim := { program := "ytaabgcncacdnoaa", sum := "e5ac37e6b9988b63834e02f7a77626b8cb2fb7e7aa94381f8c257647869237cb", func := "loop.example/lib-g01186/laws.FnRoundingsShift", spec := "fnRoundingsShift", inPlace := ["math.archFloor", "math.Float64bits", "math.Float64frombits", "math.archTrunc", "math.archCeil"], apart := false }
def FnRoundingsShiftSaid : Prop := fnRoundingsShiftRow.holds Try.pinned (OpenSpec.ofChange fnRoundingsShiftSpec)

/-- ITS FALSE NEIGHBOUR: 'it returns false'. Refute it at one input. -/
def fnRoundingsShiftWrong : ChangeSpec := { name := "fnRoundingsShift", fn := fun _ => fun
  | [d1, d2] => { results := [.lit (.bool false)], args := [d1, d2] }
  | _ => none }
def FnRoundingsShiftWrongFalsely : Prop := fnRoundingsShiftRow.holds Try.pinned (OpenSpec.ofChange fnRoundingsShiftWrong)

/-- 'laws.FnTruncIsFloor': WHATEVER THE INPUT: true; the input reads as it did. -/
def fnTruncIsFloorSpec : ChangeSpec := { name := "fnTruncIsFloor", fn := fun _ => fun
  | [d] => { results := [.lit (.bool true)], args := [d] }
  | _ => none }
def fnTruncIsFloorRow : OpenClaim := { program := "ytaabgcncacdnoaa", sum := "e5ac37e6b9988b63834e02f7a77626b8cb2fb7e7aa94381f8c257647869237cb", func := "loop.example/lib-g01186/laws.FnTruncIsFloor", spec := "fnTruncIsFloor", inPlace := ["math.archTrunc", "math.Float64bits", "math.Float64frombits", "math.archFloor", "math.archCeil"], apart := false }
def FnTruncIsFloorSaid : Prop := fnTruncIsFloorRow.holds Try.pinned (OpenSpec.ofChange fnTruncIsFloorSpec)

/-- ITS FALSE NEIGHBOUR: 'it returns false'. Refute it at one input. -/
def fnTruncIsFloorWrong : ChangeSpec := { name := "fnTruncIsFloor", fn := fun _ => fun
  | [d] => { results := [.lit (.bool false)], args := [d] }
  | _ => none }
def FnTruncIsFloorWrongFalsely : Prop := fnTruncIsFloorRow.holds Try.pinned (OpenSpec.ofChange fnTruncIsFloorWrong)

/-- 'laws.FnRoundingsOdd': WHATEVER THE INPUT: true; the input reads as it did. -/
def fnRoundingsOddSpec : ChangeSpec := { name := "fnRoundingsOdd", fn := fun _ => fun
  | [d] => { results := [.lit (.bool true)], args := [d] }
  | _ => none }
def fnRoundingsOddRow : OpenClaim := { program := "ytaabgcncacdnoaa", sum := "e5ac37e6b9988b63834e02f7a77626b8cb2fb7e7aa94381f8c257647869237cb", func := "loop.example/lib-g01186/laws.FnRoundingsOdd", spec := "fnRoundingsOdd", inPlace := ["math.archTrunc", "math.Float64bits", "math.Float64frombits", "math.RoundToEven"], apart := false }
def FnRoundingsOddSaid : Prop := fnRoundingsOddRow.holds Try.pinned (OpenSpec.ofChange fnRoundingsOddSpec)

/-- ITS FALSE NEIGHBOUR: 'it returns false'. Refute it at one input. -/
def fnRoundingsOddWrong : ChangeSpec := { name := "fnRoundingsOdd", fn := fun _ => fun
  | [d] => { results := [.lit (.bool false)], args := [d] }
  | _ => none }
def FnRoundingsOddWrongFalsely : Prop := fnRoundingsOddRow.holds Try.pinned (OpenSpec.ofChange fnRoundingsOddWrong)

/-- 'laws.FnRoundsAgree': WHATEVER THE INPUT: true; the input reads as it did. -/
def fnRoundsAgreeSpec : ChangeSpec := { name := "fnRoundsAgree", fn := fun _ => fun
  | [d] => { results := [.lit (.bool true)], args := [d] }
  | _ => none }
def fnRoundsAgreeRow : OpenClaim := { program := "ytaabgcncacdnoaa", sum := "e5ac37e6b9988b63834e02f7a77626b8cb2fb7e7aa94381f8c257647869237cb", func := "loop.example/lib-g01186/laws.FnRoundsAgree", spec := "fnRoundsAgree", inPlace := ["math.Float64bits", "math.Float64frombits", "math.RoundToEven", "math.archTrunc"], apart := false }
def FnRoundsAgreeSaid : Prop := fnRoundsAgreeRow.holds Try.pinned (OpenSpec.ofChange fnRoundsAgreeSpec)

/-- ITS FALSE NEIGHBOUR: 'it returns false'. Refute it at one input. -/
def fnRoundsAgreeWrong : ChangeSpec := { name := "fnRoundsAgree", fn := fun _ => fun
  | [d] => { results := [.lit (.bool false)], args := [d] }
  | _ => none }
def FnRoundsAgreeWrongFalsely : Prop := fnRoundsAgreeRow.holds Try.pinned (OpenSpec.ofChange fnRoundsAgreeWrong)

/-- 'laws.FnHalves': WHATEVER THE INPUT: true; the input reads as it did. -/
def fnHalvesSpec : ChangeSpec := { name := "fnHalves", fn := fun _ => fun
  | [d] => { results := [.lit (.bool true)], args := [d] }
  | _ => none }
def fnHalvesRow : OpenClaim := { program := "ytaabgcncacdnoaa", sum := "e5ac37e6b9988b63834e02f7a77626b8cb2fb7e7aa94381f8c257647869237cb", func := "loop.example/lib-g01186/laws.FnHalves", spec := "fnHalves", inPlace := ["math.archFloor", "math.Float64bits", "math.Float64frombits", "math.archTrunc", "math.archCeil", "math.RoundToEven"], apart := false }
def FnHalvesSaid : Prop := fnHalvesRow.holds Try.pinned (OpenSpec.ofChange fnHalvesSpec)

/-- ITS FALSE NEIGHBOUR: 'it returns false'. Refute it at one input. -/
def fnHalvesWrong : ChangeSpec := { name := "fnHalves", fn := fun _ => fun
  | [d] => { results := [.lit (.bool false)], args := [d] }
  | _ => none }
def FnHalvesWrongFalsely : Prop := fnHalvesRow.holds Try.pinned (OpenSpec.ofChange fnHalvesWrong)

/-- 'laws.FnRoundingsAgain': WHATEVER THE INPUT: true; the input reads as it did. -/
def fnRoundingsAgainSpec : ChangeSpec := { name := "fnRoundingsAgain", fn := fun _ => fun
  | [d] => { results := [.lit (.bool true)], args := [d] }
  | _ => none }
def fnRoundingsAgainRow : OpenClaim := { program := "ytaabgcncacdnoaa", sum := "e5ac37e6b9988b63834e02f7a77626b8cb2fb7e7aa94381f8c257647869237cb", func := "loop.example/lib-g01186/laws.FnRoundingsAgain", spec := "fnRoundingsAgain", inPlace := ["math.archFloor", "math.Float64bits", "math.Float64frombits", "math.archTrunc", "math.archCeil", "math.RoundToEven"], apart := false }
def FnRoundingsAgainSaid : Prop := fnRoundingsAgainRow.holds Try.pinned (OpenSpec.ofChange fnRoundingsAgainSpec)

/-- ITS FALSE NEIGHBOUR: 'it returns false'. Refute it at one input. -/
def fnRoundingsAgainWrong : ChangeSpec := { name := "fnRoundingsAgain", fn := fun _ => fun
  | [d] => { results := [.lit (.bool false)], args := [d] }
  | _ => none }
def FnRoundingsAgainWrongFalsely : Prop := fnRoundingsAgainRow.holds Try.pinned (OpenSpec.ofChange fnRoundingsAgainWrong)

/-- 'laws.FnRoundingsBetween': WHATEVER THE INPUT: true; the input reads as it did. -/
def fnRoundingsBetweenSpec : ChangeSpec := { name := "fnRoundingsBetween", fn := fun _ => fun
  | [d] => { results := [.lit (.bool true)], args := [d] }
  | _ => none }
def fnRoundingsBetweenRow : OpenClaim := { program := "ytaabgcncacdnoaa", sum := "e5ac37e6b9988b63834e02f7a77626b8cb2fb7e7aa94381f8c257647869237cb", func := "loop.example/lib-g01186/laws.FnRoundingsBetween", spec := "fnRoundingsBetween", inPlace := ["math.archFloor", "math.Float64bits", "math.Float64frombits", "math.archTrunc", "math.archCeil", "math.RoundToEven"], apart := false }
def FnRoundingsBetweenSaid : Prop := fnRoundingsBetweenRow.holds Try.pinned (OpenSpec.ofChange fnRoundingsBetweenSpec)

/-- ITS FALSE NEIGHBOUR: 'it returns false'. Refute it at one input. -/
def fnRoundingsBetweenWrong : ChangeSpec := { name := "fnRoundingsBetween", fn := fun _ => fun
  | [d] => { results := [.lit (.bool false)], args := [d] }
  | _ => none }
def FnRoundingsBetweenWrongFalsely : Prop := fnRoundingsBetweenRow.holds Try.pinned (OpenSpec.ofChange fnRoundingsBetweenWrong)

/-- 'laws.FnRoundingsKeep': WHATEVER THE INPUT: true; the input reads as it did. -/
def fnRoundingsKeepSpec : ChangeSpec := { name := "fnRoundingsKeep", fn := fun _ => fun
  | [d] => { results := [.lit (.bool true)], args := [d] }
  | _ => none }
def fnRoundingsKeepRow : OpenClaim := { program := "ytaabgcncacdnoaa", sum := "e5ac37e6b9988b63834e02f7a77626b8cb2fb7e7aa94381f8c257647869237cb", func := "loop.example/lib-g01186/laws.FnRoundingsKeep", spec := "fnRoundingsKeep", inPlace := ["math.archFloor", "math.Float64bits", "math.Float64frombits", "math.archTrunc", "math.archCeil", "math.RoundToEven"], apart := false }
def FnRoundingsKeepSaid : Prop := fnRoundingsKeepRow.holds Try.pinned (OpenSpec.ofChange fnRoundingsKeepSpec)

/-- ITS FALSE NEIGHBOUR: 'it returns false'. Refute it at one input. -/
def fnRoundingsKeepWrong : ChangeSpec := { name := "fnRoundingsKeep", fn := fun _ => fun
  | [d] => { results := [.lit (.bool false)], args := [d] }
  | _ => none }
def FnRoundingsKeepWrongFalsely : Prop := fnRoundingsKeepRow.holds Try.pinned (OpenSpec.ofChange fnRoundingsKeepWrong)

/-- 'laws.FnRoundingsRise': WHATEVER THE INPUT: true; the input reads as it did. -/
def fnRoundingsRiseSpec : ChangeSpec := { name := "fnRoundingsRise", fn := fun _ => fun
  | [d1, d2] => { results := [.lit (.bool true)], args := [d1, d2] }
  | _ => none }
def fnRoundingsRiseRow : OpenClaim := { program := "ytaabgcncacdnoaa", sum := "e5ac37e6b9988b63834e02f7a77626b8cb2fb7e7aa94381f8c257647869237cb", func := "loop.example/lib-g01186/laws.FnRoundingsRise", spec := "fnRoundingsRise", inPlace := ["math.archFloor", "math.Float64bits", "math.Float64frombits", "math.archTrunc", "math.archCeil", "math.RoundToEven"], apart := false }
def FnRoundingsRiseSaid : Prop := fnRoundingsRiseRow.holds Try.pinned (OpenSpec.ofChange fnRoundingsRiseSpec)

/-- ITS FALSE NEIGHBOUR: 'it returns false'. Refute it at one input. -/
def fnRoundingsRiseWrong : ChangeSpec := { name := "fnRoundingsRise", fn := fun _ => fun
  | [d1, d2] => { results := [.lit (.bool false)], args := [d1, d2] }
  | _ => none }
def FnRoundingsRiseWrongFalsely : Prop := fnRoundingsRiseRow.holds Try.pinned (OpenSpec.ofChange fnRoundingsRiseWrong)

/- THE SECOND FORM. 'bulk': how many values and letters a reading holds, each counted each time it is reached (what is shared counts as often as it is met; a slice's spare places count too). A statement '..UptoSaid' is the law's where the arguments, and the package variables that the reading takes, are together of bulk at most 1048576: NARROWER than '..Said'. Prove '..Said' where nothing that the law and all that it calls make is longer than what came in: it says more and counts as full. Else prove '..UptoSaid'. A law counts once. -/
mutual
def uptoBulk {H : Type} : DataW H → Nat
  | .lit (.string bytes) => bytes.length + 1
  | .lit _ => 1
  | .nil => 1
  | .ptr d => uptoBulk d + 1
  | .slice elems spare => uptoBulkAll elems + uptoBulkAll spare + 1
  | .agg parts => uptoBulkAll parts + 1
  | .iface _ d => uptoBulk d + 1
  | .map entries => uptoBulkEntries entries + 1
  | .held _ => 1
def uptoBulkAll {H : Type} : List (DataW H) → Nat
  | [] => 0
  | d :: r => uptoBulk d + uptoBulkAll r
def uptoBulkEntries {H : Type} : List (Lit × DataW H) → Nat
  | [] => 0
  | x :: r => uptoBulkEntry x + uptoBulkEntries r
def uptoBulkEntry {H : Type} : Lit × DataW H → Nat
  | (.string bytes, d) => bytes.length + uptoBulk d + 1
  | (_, d) => uptoBulk d + 1
 end
def uptoSmall : (H : Type) → List (DataW H) → Bool := fun _ ds => decide (uptoBulkAll ds ≤ 1048576)
def OpenSpec.upto (s : _root_.Go.ChangeSpec) : _root_.Go.OpenSpec := { _root_.Go.OpenSpec.ofChange s with cond := some uptoSmall }

/-- 'laws.FnExactCeil', WHERE WHAT IT READS IS OF BULK AT MOST 1048576: true; the input reads as it did. -/
def fnExactCeilUptoRow : OpenClaim := { program := "ytaabgcncacdnoaa", sum := "e5ac37e6b9988b63834e02f7a77626b8cb2fb7e7aa94381f8c257647869237cb", func := "loop.example/lib-g01186/laws.FnExactCeil", spec := "fnExactCeil", inPlace := ["math.archCeil", "math.archFloor", "math.Float64bits", "math.Float64frombits", "math.archTrunc"], apart := false, narrowed := true }
def FnExactCeilUptoSaid : Prop := fnExactCeilUptoRow.holds Try.pinned (OpenSpec.upto fnExactCeilSpec)

/-- 'laws.FnCeilIsFloor', WHERE WHAT IT READS IS OF BULK AT MOST 1048576: true; the input reads as it did. -/
def fnCeilIsFloorUptoRow : OpenClaim := { program := "ytaabgcncacdnoaa", sum := "e5ac37e6b9988b63834e02f7a77626b8cb2fb7e7aa94381f8c257647869237cb", func := "loop.example/lib-g01186/laws.FnCeilIsFloor", spec := "fnCeilIsFloor", inPlace := ["math.archCeil", "math.archFloor", "math.Float64bits", "math.Float64frombits", "math.archTrunc"], apart := false, narrowed := true }
def FnCeilIsFloorUptoSaid : Prop := fnCeilIsFloorUptoRow.holds Try.pinned (OpenSpec.upto fnCeilIsFloorSpec)

/-- 'laws.FnRoundingsShift', WHERE WHAT IT READS IS OF BULK AT MOST 1048576: true; the input reads as it did. -/
def fnRoundingsShiftUptoRow : OpenClaim := { program := "ytaabgcncacdnoaa", sum := "e5ac37e6b9988b63834e02f7a77626b8cb2fb7e7aa94381f8c257647869237cb", func := "loop.example/lib-g01186/laws.FnRoundingsShift", spec := "fnRoundingsShift", inPlace := ["math.archFloor", "math.Float64bits", "math.Float64frombits", "math.archTrunc", "math.archCeil"], apart := false, narrowed := true }
def FnRoundingsShiftUptoSaid : Prop := fnRoundingsShiftUptoRow.holds Try.pinned (OpenSpec.upto fnRoundingsShiftSpec)

/-- 'laws.FnTruncIsFloor', WHERE WHAT IT READS IS OF BULK AT MOST 1048576: true; the input reads as it did. -/
def fnTruncIsFloorUptoRow : OpenClaim := { program := "ytaabgcncacdnoaa", sum := "e5ac37e6b9988b63834e02f7a77626b8cb2fb7e7aa94381f8c257647869237cb", func := "loop.example/lib-g01186/laws.FnTruncIsFloor", spec := "fnTruncIsFloor", inPlace := ["math.archTrunc", "math.Float64bits", "math.Float64frombits", "math.archFloor", "math.archCeil"], apart := false, narrowed := true }
def FnTruncIsFloorUptoSaid : Prop := fnTruncIsFloorUptoRow.holds Try.pinned (OpenSpec.upto fnTruncIsFloorSpec)

/-- 'laws.FnRoundingsOdd', WHERE WHAT IT READS IS OF BULK AT MOST 1048576: true; the input reads as it did. -/
def fnRoundingsOddUptoRow : OpenClaim := { program := "ytaabgcncacdnoaa", sum := "e5ac37e6b9988b63834e02f7a77626b8cb2fb7e7aa94381f8c257647869237cb", func := "loop.example/lib-g01186/laws.FnRoundingsOdd", spec := "fnRoundingsOdd", inPlace := ["math.archTrunc", "math.Float64bits", "math.Float64frombits", "math.RoundToEven"], apart := false, narrowed := true }
def FnRoundingsOddUptoSaid : Prop := fnRoundingsOddUptoRow.holds Try.pinned (OpenSpec.upto fnRoundingsOddSpec)

/-- 'laws.FnRoundsAgree', WHERE WHAT IT READS IS OF BULK AT MOST 1048576: true; the input reads as it did. -/
def fnRoundsAgreeUptoRow : OpenClaim := { program := "ytaabgcncacdnoaa", sum := "e5ac37e6b9988b63834e02f7a77626b8cb2fb7e7aa94381f8c257647869237cb", func := "loop.example/lib-g01186/laws.FnRoundsAgree", spec := "fnRoundsAgree", inPlace := ["math.Float64bits", "math.Float64frombits", "math.RoundToEven", "math.archTrunc"], apart := false, narrowed := true }
def FnRoundsAgreeUptoSaid : Prop := fnRoundsAgreeUptoRow.holds Try.pinned (OpenSpec.upto fnRoundsAgreeSpec)

/-- 'laws.FnHalves', WHERE WHAT IT READS IS OF BULK AT MOST 1048576: true; the input reads as it did. -/
def fnHalvesUptoRow : OpenClaim := { program := "ytaabgcncacdnoaa", sum := "e5ac37e6b9988b63834e02f7a77626b8cb2fb7e7aa94381f8c257647869237cb", func := "loop.example/lib-g01186/laws.FnHalves", spec := "fnHalves", inPlace := ["math.archFloor", "math.Float64bits", "math.Float64frombits", "math.archTrunc", "math.archCeil", "math.RoundToEven"], apart := false, narrowed := true }
def FnHalvesUptoSaid : Prop := fnHalvesUptoRow.holds Try.pinned (OpenSpec.upto fnHalvesSpec)

/-- 'laws.FnRoundingsAgain', WHERE WHAT IT READS IS OF BULK AT MOST 1048576: true; the input reads as it did. -/
def fnRoundingsAgainUptoRow : OpenClaim := { program := "ytaabgcncacdnoaa", sum := "e5ac37e6b9988b63834e02f7a77626b8cb2fb7e7aa94381f8c257647869237cb", func := "loop.example/lib-g01186/laws.FnRoundingsAgain", spec := "fnRoundingsAgain", inPlace := ["math.archFloor", "math.Float64bits", "math.Float64frombits", "math.archTrunc", "math.archCeil", "math.RoundToEven"], apart := false, narrowed := true }
def FnRoundingsAgainUptoSaid : Prop := fnRoundingsAgainUptoRow.holds Try.pinned (OpenSpec.upto fnRoundingsAgainSpec)

/-- 'laws.FnRoundingsBetween', WHERE WHAT IT READS IS OF BULK AT MOST 1048576: true; the input reads as it did. -/
def fnRoundingsBetweenUptoRow : OpenClaim := { program := "ytaabgcncacdnoaa", sum := "e5ac37e6b9988b63834e02f7a77626b8cb2fb7e7aa94381f8c257647869237cb", func := "loop.example/lib-g01186/laws.FnRoundingsBetween", spec := "fnRoundingsBetween", inPlace := ["math.archFloor", "math.Float64bits", "math.Float64frombits", "math.archTrunc", "math.archCeil", "math.RoundToEven"], apart := false, narrowed := true }
def FnRoundingsBetweenUptoSaid : Prop := fnRoundingsBetweenUptoRow.holds Try.pinned (OpenSpec.upto fnRoundingsBetweenSpec)

/-- 'laws.FnRoundingsKeep', WHERE WHAT IT READS IS OF BULK AT MOST 1048576: true; the input reads as it did. -/
def fnRoundingsKeepUptoRow : OpenClaim := { program := "ytaabgcncacdnoaa", sum := "e5ac37e6b9988b63834e02f7a77626b8cb2fb7e7aa94381f8c257647869237cb", func := "loop.example/lib-g01186/laws.FnRoundingsKeep", spec := "fnRoundingsKeep", inPlace := ["math.archFloor", "math.Float64bits", "math.Float64frombits", "math.archTrunc", "math.archCeil", "math.RoundToEven"], apart := false, narrowed := true }
def FnRoundingsKeepUptoSaid : Prop := fnRoundingsKeepUptoRow.holds Try.pinned (OpenSpec.upto fnRoundingsKeepSpec)

/-- 'laws.FnRoundingsRise', WHERE WHAT IT READS IS OF BULK AT MOST 1048576: true; the input reads as it did. -/
def fnRoundingsRiseUptoRow : OpenClaim := { program := "ytaabgcncacdnoaa", sum := "e5ac37e6b9988b63834e02f7a77626b8cb2fb7e7aa94381f8c257647869237cb", func := "loop.example/lib-g01186/laws.FnRoundingsRise", spec := "fnRoundingsRise", inPlace := ["math.archFloor", "math.Float64bits", "math.Float64frombits", "math.archTrunc", "math.archCeil", "math.RoundToEven"], apart := false, narrowed := true }
def FnRoundingsRiseUptoSaid : Prop := fnRoundingsRiseUptoRow.holds Try.pinned (OpenSpec.upto fnRoundingsRiseSpec)

end Rows
end Go.Proofs.Ytaabgcncacdnoaa
