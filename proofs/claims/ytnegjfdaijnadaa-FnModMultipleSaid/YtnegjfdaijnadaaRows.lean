/-
  No cell of these rows narrows 'for every input' (looked for: loops, veiled, ifaces, maps, wideKeys, modest, calm, conditions, laid).
  DERIVED. THE GIVEN ROWS OF THIS SEAT. 12 by the template 'for every input the law returns true; each argument reads behind the call as it read before'; 0 by the template 'total and deterministic' (their statements: YtnegjfdaijnadaaTotals.lean).
  GIVEN WITH THE SEED: the statements are not yours to turn. If you find one false, say at which input.
  Laid BY PROGRAM, IN A SANDBOX (cutbox-rows.mjs): the forced cells as the released guide's own fill.sh prints them over the translation 03080cdabe7f74c1… (all of the seat's roots in one cut). By AI agents, Wed Nov 11 2026. No macro, syntax, notation, axiom, sorry.
-/
import Derived.Test.YtnegjfdaijnadaaChecked
import GoSem.Claim
import GoSem.ClaimJoined
import GoSem.ClaimMapViews
import Derived.JoinedTies
import Derived.KernelRfl
namespace Go.Proofs.Ytnegjfdaijnadaa
/- THE CELL 'sum', in the pinned program and in every row, IS THE sha256 OF THE DUMP (.gsa) THAT YtnegjfdaijnadaaProg.lean LOADS. Nothing in Lean hashes anything: it is a label: what it is worth is what the hold of that sum in a sandbox is worth. -/
noncomputable def Try.pinned : Pinned := { name := "ytnegjfdaijnadaa", sum := "03080cdabe7f74c15dbb3a57a0d8b54a11b1d4c35eac34af24498d6ee1ed47b4", checked := Try.checked }
namespace Rows
def none {H : Type} : Left H := { results := [], args := [] }

/-- 'laws.FnRemainderWhole': WHATEVER THE INPUT: true; the input reads as it did. -/
def fnRemainderWholeSpec : ChangeSpec := { name := "fnRemainderWhole", fn := fun _ => fun
  | [d1, d2] => { results := [.lit (.bool true)], args := [d1, d2] }
  | _ => none }
def fnRemainderWholeRow : OpenClaim := { program := "ytnegjfdaijnadaa", sum := "03080cdabe7f74c15dbb3a57a0d8b54a11b1d4c35eac34af24498d6ee1ed47b4", func := "loop.example/lib-g01186/laws.FnRemainderWhole", spec := "fnRemainderWhole", inPlace := ["math.Float64bits", "math.Float64frombits"], apart := false }
def FnRemainderWholeSaid : Prop := fnRemainderWholeRow.holds Try.pinned (OpenSpec.ofChange fnRemainderWholeSpec)

/-- ITS FALSE NEIGHBOUR: 'it returns false'. Refute it at one input. -/
def fnRemainderWholeWrong : ChangeSpec := { name := "fnRemainderWhole", fn := fun _ => fun
  | [d1, d2] => { results := [.lit (.bool false)], args := [d1, d2] }
  | _ => none }
def FnRemainderWholeWrongFalsely : Prop := fnRemainderWholeRow.holds Try.pinned (OpenSpec.ofChange fnRemainderWholeWrong)

/-- 'laws.FnRemainderMod': WHATEVER THE INPUT: true; the input reads as it did. -/
def fnRemainderModSpec : ChangeSpec := { name := "fnRemainderMod", fn := fun _ => fun
  | [d1, d2] => { results := [.lit (.bool true)], args := [d1, d2] }
  | _ => none }
def fnRemainderModRow : OpenClaim := { program := "ytnegjfdaijnadaa", sum := "03080cdabe7f74c15dbb3a57a0d8b54a11b1d4c35eac34af24498d6ee1ed47b4", func := "loop.example/lib-g01186/laws.FnRemainderMod", spec := "fnRemainderMod", inPlace := ["math.Float64bits", "math.Float64frombits"], apart := false }
def FnRemainderModSaid : Prop := fnRemainderModRow.holds Try.pinned (OpenSpec.ofChange fnRemainderModSpec)

/-- ITS FALSE NEIGHBOUR: 'it returns false'. Refute it at one input. -/
def fnRemainderModWrong : ChangeSpec := { name := "fnRemainderMod", fn := fun _ => fun
  | [d1, d2] => { results := [.lit (.bool false)], args := [d1, d2] }
  | _ => none }
def FnRemainderModWrongFalsely : Prop := fnRemainderModRow.holds Try.pinned (OpenSpec.ofChange fnRemainderModWrong)

/-- 'laws.FnRemainderScaled': WHATEVER THE INPUT: true; the input reads as it did. -/
def fnRemainderScaledSpec : ChangeSpec := { name := "fnRemainderScaled", fn := fun _ => fun
  | [d1, d2, d3] => { results := [.lit (.bool true)], args := [d1, d2, d3] }
  | _ => none }
def fnRemainderScaledRow : OpenClaim := { program := "ytnegjfdaijnadaa", sum := "03080cdabe7f74c15dbb3a57a0d8b54a11b1d4c35eac34af24498d6ee1ed47b4", func := "loop.example/lib-g01186/laws.FnRemainderScaled", spec := "fnRemainderScaled", inPlace := ["math.Float64bits", "math.Float64frombits"], apart := false }
def FnRemainderScaledSaid : Prop := fnRemainderScaledRow.holds Try.pinned (OpenSpec.ofChange fnRemainderScaledSpec)

/-- ITS FALSE NEIGHBOUR: 'it returns false'. Refute it at one input. -/
def fnRemainderScaledWrong : ChangeSpec := { name := "fnRemainderScaled", fn := fun _ => fun
  | [d1, d2, d3] => { results := [.lit (.bool false)], args := [d1, d2, d3] }
  | _ => none }
def FnRemainderScaledWrongFalsely : Prop := fnRemainderScaledRow.holds Try.pinned (OpenSpec.ofChange fnRemainderScaledWrong)

/-- 'laws.FnExactMod': WHATEVER THE INPUT: true; the input reads as it did. -/
def fnExactModSpec : ChangeSpec := { name := "fnExactMod", fn := fun _ => fun
  | [d1, d2] => { results := [.lit (.bool true)], args := [d1, d2] }
  | _ => none }
def fnExactModRow : OpenClaim := { program := "ytnegjfdaijnadaa", sum := "03080cdabe7f74c15dbb3a57a0d8b54a11b1d4c35eac34af24498d6ee1ed47b4", func := "loop.example/lib-g01186/laws.FnExactMod", spec := "fnExactMod", inPlace := ["math.Float64bits", "math.Float64frombits"], apart := false }
def FnExactModSaid : Prop := fnExactModRow.holds Try.pinned (OpenSpec.ofChange fnExactModSpec)

/-- ITS FALSE NEIGHBOUR: 'it returns false'. Refute it at one input. -/
def fnExactModWrong : ChangeSpec := { name := "fnExactMod", fn := fun _ => fun
  | [d1, d2] => { results := [.lit (.bool false)], args := [d1, d2] }
  | _ => none }
def FnExactModWrongFalsely : Prop := fnExactModRow.holds Try.pinned (OpenSpec.ofChange fnExactModWrong)

/-- 'laws.FnModAgain': WHATEVER THE INPUT: true; the input reads as it did. -/
def fnModAgainSpec : ChangeSpec := { name := "fnModAgain", fn := fun _ => fun
  | [d1, d2] => { results := [.lit (.bool true)], args := [d1, d2] }
  | _ => none }
def fnModAgainRow : OpenClaim := { program := "ytnegjfdaijnadaa", sum := "03080cdabe7f74c15dbb3a57a0d8b54a11b1d4c35eac34af24498d6ee1ed47b4", func := "loop.example/lib-g01186/laws.FnModAgain", spec := "fnModAgain", inPlace := ["math.Float64bits", "math.Float64frombits"], apart := false }
def FnModAgainSaid : Prop := fnModAgainRow.holds Try.pinned (OpenSpec.ofChange fnModAgainSpec)

/-- ITS FALSE NEIGHBOUR: 'it returns false'. Refute it at one input. -/
def fnModAgainWrong : ChangeSpec := { name := "fnModAgain", fn := fun _ => fun
  | [d1, d2] => { results := [.lit (.bool false)], args := [d1, d2] }
  | _ => none }
def FnModAgainWrongFalsely : Prop := fnModAgainRow.holds Try.pinned (OpenSpec.ofChange fnModAgainWrong)

/-- 'laws.FnModMultiple': WHATEVER THE INPUT: true; the input reads as it did. -/
def fnModMultipleSpec : ChangeSpec := { name := "fnModMultiple", fn := fun _ => fun
  | [d1, d2, d3] => { results := [.lit (.bool true)], args := [d1, d2, d3] }
  | _ => none }
def fnModMultipleRow : OpenClaim := { program := "ytnegjfdaijnadaa", sum := "03080cdabe7f74c15dbb3a57a0d8b54a11b1d4c35eac34af24498d6ee1ed47b4", func := "loop.example/lib-g01186/laws.FnModMultiple", spec := "fnModMultiple", inPlace := ["math.Float64bits", "math.Float64frombits"], apart := false }
def FnModMultipleSaid : Prop := fnModMultipleRow.holds Try.pinned (OpenSpec.ofChange fnModMultipleSpec)

/-- ITS FALSE NEIGHBOUR: 'it returns false'. Refute it at one input. -/
def fnModMultipleWrong : ChangeSpec := { name := "fnModMultiple", fn := fun _ => fun
  | [d1, d2, d3] => { results := [.lit (.bool false)], args := [d1, d2, d3] }
  | _ => none }
def FnModMultipleWrongFalsely : Prop := fnModMultipleRow.holds Try.pinned (OpenSpec.ofChange fnModMultipleWrong)

/-- 'laws.FnModValue': WHATEVER THE INPUT: true; the input reads as it did. -/
def fnModValueSpec : ChangeSpec := { name := "fnModValue", fn := fun _ => fun
  | [d1, d2] => { results := [.lit (.bool true)], args := [d1, d2] }
  | _ => none }
def fnModValueRow : OpenClaim := { program := "ytnegjfdaijnadaa", sum := "03080cdabe7f74c15dbb3a57a0d8b54a11b1d4c35eac34af24498d6ee1ed47b4", func := "loop.example/lib-g01186/laws.FnModValue", spec := "fnModValue", inPlace := ["math.Float64bits", "math.Float64frombits"], apart := false }
def FnModValueSaid : Prop := fnModValueRow.holds Try.pinned (OpenSpec.ofChange fnModValueSpec)

/-- ITS FALSE NEIGHBOUR: 'it returns false'. Refute it at one input. -/
def fnModValueWrong : ChangeSpec := { name := "fnModValue", fn := fun _ => fun
  | [d1, d2] => { results := [.lit (.bool false)], args := [d1, d2] }
  | _ => none }
def FnModValueWrongFalsely : Prop := fnModValueRow.holds Try.pinned (OpenSpec.ofChange fnModValueWrong)

/-- 'laws.FnModWhole': WHATEVER THE INPUT: true; the input reads as it did. -/
def fnModWholeSpec : ChangeSpec := { name := "fnModWhole", fn := fun _ => fun
  | [d1, d2] => { results := [.lit (.bool true)], args := [d1, d2] }
  | _ => none }
def fnModWholeRow : OpenClaim := { program := "ytnegjfdaijnadaa", sum := "03080cdabe7f74c15dbb3a57a0d8b54a11b1d4c35eac34af24498d6ee1ed47b4", func := "loop.example/lib-g01186/laws.FnModWhole", spec := "fnModWhole", inPlace := ["math.Float64bits", "math.Float64frombits"], apart := false }
def FnModWholeSaid : Prop := fnModWholeRow.holds Try.pinned (OpenSpec.ofChange fnModWholeSpec)

/-- ITS FALSE NEIGHBOUR: 'it returns false'. Refute it at one input. -/
def fnModWholeWrong : ChangeSpec := { name := "fnModWhole", fn := fun _ => fun
  | [d1, d2] => { results := [.lit (.bool false)], args := [d1, d2] }
  | _ => none }
def FnModWholeWrongFalsely : Prop := fnModWholeRow.holds Try.pinned (OpenSpec.ofChange fnModWholeWrong)

/-- 'laws.FnModScaled': WHATEVER THE INPUT: true; the input reads as it did. -/
def fnModScaledSpec : ChangeSpec := { name := "fnModScaled", fn := fun _ => fun
  | [d1, d2, d3] => { results := [.lit (.bool true)], args := [d1, d2, d3] }
  | _ => none }
def fnModScaledRow : OpenClaim := { program := "ytnegjfdaijnadaa", sum := "03080cdabe7f74c15dbb3a57a0d8b54a11b1d4c35eac34af24498d6ee1ed47b4", func := "loop.example/lib-g01186/laws.FnModScaled", spec := "fnModScaled", inPlace := ["math.Float64bits", "math.Float64frombits"], apart := false }
def FnModScaledSaid : Prop := fnModScaledRow.holds Try.pinned (OpenSpec.ofChange fnModScaledSpec)

/-- ITS FALSE NEIGHBOUR: 'it returns false'. Refute it at one input. -/
def fnModScaledWrong : ChangeSpec := { name := "fnModScaled", fn := fun _ => fun
  | [d1, d2, d3] => { results := [.lit (.bool false)], args := [d1, d2, d3] }
  | _ => none }
def FnModScaledWrongFalsely : Prop := fnModScaledRow.holds Try.pinned (OpenSpec.ofChange fnModScaledWrong)

/-- 'laws.FnExactRemainder': WHATEVER THE INPUT: true; the input reads as it did. -/
def fnExactRemainderSpec : ChangeSpec := { name := "fnExactRemainder", fn := fun _ => fun
  | [d1, d2] => { results := [.lit (.bool true)], args := [d1, d2] }
  | _ => none }
def fnExactRemainderRow : OpenClaim := { program := "ytnegjfdaijnadaa", sum := "03080cdabe7f74c15dbb3a57a0d8b54a11b1d4c35eac34af24498d6ee1ed47b4", func := "loop.example/lib-g01186/laws.FnExactRemainder", spec := "fnExactRemainder", inPlace := ["math.Float64bits", "math.Float64frombits"], apart := false }
def FnExactRemainderSaid : Prop := fnExactRemainderRow.holds Try.pinned (OpenSpec.ofChange fnExactRemainderSpec)

/-- ITS FALSE NEIGHBOUR: 'it returns false'. Refute it at one input. -/
def fnExactRemainderWrong : ChangeSpec := { name := "fnExactRemainder", fn := fun _ => fun
  | [d1, d2] => { results := [.lit (.bool false)], args := [d1, d2] }
  | _ => none }
def FnExactRemainderWrongFalsely : Prop := fnExactRemainderRow.holds Try.pinned (OpenSpec.ofChange fnExactRemainderWrong)

/-- 'laws.FnRemainderAgain': WHATEVER THE INPUT: true; the input reads as it did. -/
def fnRemainderAgainSpec : ChangeSpec := { name := "fnRemainderAgain", fn := fun _ => fun
  | [d1, d2] => { results := [.lit (.bool true)], args := [d1, d2] }
  | _ => none }
def fnRemainderAgainRow : OpenClaim := { program := "ytnegjfdaijnadaa", sum := "03080cdabe7f74c15dbb3a57a0d8b54a11b1d4c35eac34af24498d6ee1ed47b4", func := "loop.example/lib-g01186/laws.FnRemainderAgain", spec := "fnRemainderAgain", inPlace := ["math.Float64bits", "math.Float64frombits"], apart := false }
def FnRemainderAgainSaid : Prop := fnRemainderAgainRow.holds Try.pinned (OpenSpec.ofChange fnRemainderAgainSpec)

/-- ITS FALSE NEIGHBOUR: 'it returns false'. Refute it at one input. -/
def fnRemainderAgainWrong : ChangeSpec := { name := "fnRemainderAgain", fn := fun _ => fun
  | [d1, d2] => { results := [.lit (.bool false)], args := [d1, d2] }
  | _ => none }
def FnRemainderAgainWrongFalsely : Prop := fnRemainderAgainRow.holds Try.pinned (OpenSpec.ofChange fnRemainderAgainWrong)

/-- 'laws.FnRemainderValue': WHATEVER THE INPUT: true; the input reads as it did. -/
def fnRemainderValueSpec : ChangeSpec := { name := "fnRemainderValue", fn := fun _ => fun
  | [d1, d2] => { results := [.lit (.bool true)], args := [d1, d2] }
  | _ => none }
def fnRemainderValueRow : OpenClaim := { program := "ytnegjfdaijnadaa", sum := "03080cdabe7f74c15dbb3a57a0d8b54a11b1d4c35eac34af24498d6ee1ed47b4", func := "loop.example/lib-g01186/laws.FnRemainderValue", spec := "fnRemainderValue", inPlace := ["math.Float64bits", "math.Float64frombits"], apart := false }
def FnRemainderValueSaid : Prop := fnRemainderValueRow.holds Try.pinned (OpenSpec.ofChange fnRemainderValueSpec)

/-- ITS FALSE NEIGHBOUR: 'it returns false'. Refute it at one input. -/
def fnRemainderValueWrong : ChangeSpec := { name := "fnRemainderValue", fn := fun _ => fun
  | [d1, d2] => { results := [.lit (.bool false)], args := [d1, d2] }
  | _ => none }
def FnRemainderValueWrongFalsely : Prop := fnRemainderValueRow.holds Try.pinned (OpenSpec.ofChange fnRemainderValueWrong)

/- THE SECOND FORM. 'bulk': how many values and letters a reading holds, each counted each time it is reached (what is shared counts as often as it is met; a slice's spare places count too). A statement '..UptoSaid' is the law's where the arguments, and the package variables that the reading takes, are together of bulk at most 1048576: NARROWER than '..Said'. Prove '..Said' where nothing that the law and all that it calls make is longer than what came in: it says more and counts as full. Else prove '..UptoSaid'. A law counts once. -/
mutual
def uptoBulk {H : Type} : DataW H → Nat
  | .lit (.string bytes) => bytes.length + 1
  | .lit _ => 1
  | .nil => 1
  | .ptr d => uptoBulk d + 1
  | .slice elems spare => uptoBulkAll elems + uptoBulkAll spare + 1
  | .agg parts => uptoBulkAll parts + 1
  | .iface _ d => uptoBulk d + 1
  | .map entries => uptoBulkEntries entries + 1
  | .held _ => 1
def uptoBulkAll {H : Type} : List (DataW H) → Nat
  | [] => 0
  | d :: r => uptoBulk d + uptoBulkAll r
def uptoBulkEntries {H : Type} : List (Lit × DataW H) → Nat
  | [] => 0
  | x :: r => uptoBulkEntry x + uptoBulkEntries r
def uptoBulkEntry {H : Type} : Lit × DataW H → Nat
  | (.string bytes, d) => bytes.length + uptoBulk d + 1
  | (_, d) => uptoBulk d + 1
 end
def uptoSmall : (H : Type) → List (DataW H) → Bool := fun _ ds => decide (uptoBulkAll ds ≤ 1048576)
def OpenSpec.upto (s : _root_.Go.ChangeSpec) : _root_.Go.OpenSpec := { _root_.Go.OpenSpec.ofChange s with cond := some uptoSmall }

/-- 'laws.FnRemainderWhole', WHERE WHAT IT READS IS OF BULK AT MOST 1048576: true; the input reads as it did. -/
def fnRemainderWholeUptoRow : OpenClaim := { program := "ytnegjfdaijnadaa", sum := "03080cdabe7f74c15dbb3a57a0d8b54a11b1d4c35eac34af24498d6ee1ed47b4", func := "loop.example/lib-g01186/laws.FnRemainderWhole", spec := "fnRemainderWhole", inPlace := ["math.Float64bits", "math.Float64frombits"], apart := false, narrowed := true }
def FnRemainderWholeUptoSaid : Prop := fnRemainderWholeUptoRow.holds Try.pinned (OpenSpec.upto fnRemainderWholeSpec)

/-- 'laws.FnRemainderMod', WHERE WHAT IT READS IS OF BULK AT MOST 1048576: true; the input reads as it did. -/
def fnRemainderModUptoRow : OpenClaim := { program := "ytnegjfdaijnadaa", sum := "03080cdabe7f74c15dbb3a57a0d8b54a11b1d4c35eac34af24498d6ee1ed47b4", func := "loop.example/lib-g01186/laws.FnRemainderMod", spec := "fnRemainderMod", inPlace := ["math.Float64bits", "math.Float64frombits"], apart := false, narrowed := true }
def FnRemainderModUptoSaid : Prop := fnRemainderModUptoRow.holds Try.pinned (OpenSpec.upto fnRemainderModSpec)

/-- 'laws.FnRemainderScaled', WHERE WHAT IT READS IS OF BULK AT MOST 1048576: true; the input reads as it did. -/
def fnRemainderScaledUptoRow : OpenClaim := { program := "ytnegjfdaijnadaa", sum := "03080cdabe7f74c15dbb3a57a0d8b54a11b1d4c35eac34af24498d6ee1ed47b4", func := "loop.example/lib-g01186/laws.FnRemainderScaled", spec := "fnRemainderScaled", inPlace := ["math.Float64bits", "math.Float64frombits"], apart := false, narrowed := true }
def FnRemainderScaledUptoSaid : Prop := fnRemainderScaledUptoRow.holds Try.pinned (OpenSpec.upto fnRemainderScaledSpec)

/-- 'laws.FnExactMod', WHERE WHAT IT READS IS OF BULK AT MOST 1048576: true; the input reads as it did. -/
def fnExactModUptoRow : OpenClaim := { program := "ytnegjfdaijnadaa", sum := "03080cdabe7f74c15dbb3a57a0d8b54a11b1d4c35eac34af24498d6ee1ed47b4", func := "loop.example/lib-g01186/laws.FnExactMod", spec := "fnExactMod", inPlace := ["math.Float64bits", "math.Float64frombits"], apart := false, narrowed := true }
def FnExactModUptoSaid : Prop := fnExactModUptoRow.holds Try.pinned (OpenSpec.upto fnExactModSpec)

/-- 'laws.FnModAgain', WHERE WHAT IT READS IS OF BULK AT MOST 1048576: true; the input reads as it did. -/
def fnModAgainUptoRow : OpenClaim := { program := "ytnegjfdaijnadaa", sum := "03080cdabe7f74c15dbb3a57a0d8b54a11b1d4c35eac34af24498d6ee1ed47b4", func := "loop.example/lib-g01186/laws.FnModAgain", spec := "fnModAgain", inPlace := ["math.Float64bits", "math.Float64frombits"], apart := false, narrowed := true }
def FnModAgainUptoSaid : Prop := fnModAgainUptoRow.holds Try.pinned (OpenSpec.upto fnModAgainSpec)

/-- 'laws.FnModMultiple', WHERE WHAT IT READS IS OF BULK AT MOST 1048576: true; the input reads as it did. -/
def fnModMultipleUptoRow : OpenClaim := { program := "ytnegjfdaijnadaa", sum := "03080cdabe7f74c15dbb3a57a0d8b54a11b1d4c35eac34af24498d6ee1ed47b4", func := "loop.example/lib-g01186/laws.FnModMultiple", spec := "fnModMultiple", inPlace := ["math.Float64bits", "math.Float64frombits"], apart := false, narrowed := true }
def FnModMultipleUptoSaid : Prop := fnModMultipleUptoRow.holds Try.pinned (OpenSpec.upto fnModMultipleSpec)

/-- 'laws.FnModValue', WHERE WHAT IT READS IS OF BULK AT MOST 1048576: true; the input reads as it did. -/
def fnModValueUptoRow : OpenClaim := { program := "ytnegjfdaijnadaa", sum := "03080cdabe7f74c15dbb3a57a0d8b54a11b1d4c35eac34af24498d6ee1ed47b4", func := "loop.example/lib-g01186/laws.FnModValue", spec := "fnModValue", inPlace := ["math.Float64bits", "math.Float64frombits"], apart := false, narrowed := true }
def FnModValueUptoSaid : Prop := fnModValueUptoRow.holds Try.pinned (OpenSpec.upto fnModValueSpec)

/-- 'laws.FnModWhole', WHERE WHAT IT READS IS OF BULK AT MOST 1048576: true; the input reads as it did. -/
def fnModWholeUptoRow : OpenClaim := { program := "ytnegjfdaijnadaa", sum := "03080cdabe7f74c15dbb3a57a0d8b54a11b1d4c35eac34af24498d6ee1ed47b4", func := "loop.example/lib-g01186/laws.FnModWhole", spec := "fnModWhole", inPlace := ["math.Float64bits", "math.Float64frombits"], apart := false, narrowed := true }
def FnModWholeUptoSaid : Prop := fnModWholeUptoRow.holds Try.pinned (OpenSpec.upto fnModWholeSpec)

/-- 'laws.FnModScaled', WHERE WHAT IT READS IS OF BULK AT MOST 1048576: true; the input reads as it did. -/
def fnModScaledUptoRow : OpenClaim := { program := "ytnegjfdaijnadaa", sum := "03080cdabe7f74c15dbb3a57a0d8b54a11b1d4c35eac34af24498d6ee1ed47b4", func := "loop.example/lib-g01186/laws.FnModScaled", spec := "fnModScaled", inPlace := ["math.Float64bits", "math.Float64frombits"], apart := false, narrowed := true }
def FnModScaledUptoSaid : Prop := fnModScaledUptoRow.holds Try.pinned (OpenSpec.upto fnModScaledSpec)

/-- 'laws.FnExactRemainder', WHERE WHAT IT READS IS OF BULK AT MOST 1048576: true; the input reads as it did. -/
def fnExactRemainderUptoRow : OpenClaim := { program := "ytnegjfdaijnadaa", sum := "03080cdabe7f74c15dbb3a57a0d8b54a11b1d4c35eac34af24498d6ee1ed47b4", func := "loop.example/lib-g01186/laws.FnExactRemainder", spec := "fnExactRemainder", inPlace := ["math.Float64bits", "math.Float64frombits"], apart := false, narrowed := true }
def FnExactRemainderUptoSaid : Prop := fnExactRemainderUptoRow.holds Try.pinned (OpenSpec.upto fnExactRemainderSpec)

/-- 'laws.FnRemainderAgain', WHERE WHAT IT READS IS OF BULK AT MOST 1048576: true; the input reads as it did. -/
def fnRemainderAgainUptoRow : OpenClaim := { program := "ytnegjfdaijnadaa", sum := "03080cdabe7f74c15dbb3a57a0d8b54a11b1d4c35eac34af24498d6ee1ed47b4", func := "loop.example/lib-g01186/laws.FnRemainderAgain", spec := "fnRemainderAgain", inPlace := ["math.Float64bits", "math.Float64frombits"], apart := false, narrowed := true }
def FnRemainderAgainUptoSaid : Prop := fnRemainderAgainUptoRow.holds Try.pinned (OpenSpec.upto fnRemainderAgainSpec)

/-- 'laws.FnRemainderValue', WHERE WHAT IT READS IS OF BULK AT MOST 1048576: true; the input reads as it did. -/
def fnRemainderValueUptoRow : OpenClaim := { program := "ytnegjfdaijnadaa", sum := "03080cdabe7f74c15dbb3a57a0d8b54a11b1d4c35eac34af24498d6ee1ed47b4", func := "loop.example/lib-g01186/laws.FnRemainderValue", spec := "fnRemainderValue", inPlace := ["math.Float64bits", "math.Float64frombits"], apart := false, narrowed := true }
def FnRemainderValueUptoSaid : Prop := fnRemainderValueUptoRow.holds Try.pinned (OpenSpec.upto fnRemainderValueSpec)

end Rows
end Go.Proofs.Ytnegjfdaijnadaa
