/-
  No cell of these rows narrows 'for every input' (looked for: loops, veiled, ifaces, maps, wideKeys, modest, calm, conditions, laid).
  DERIVED. THE GIVEN ROWS OF THIS SEAT. 6 by the template 'for every input the law returns true; each argument reads behind the call as it read before'; 0 by the template 'total and deterministic' (their statements: Qxb6604512aTotals.lean).
  GIVEN WITH THE SEED: the statements are not yours to turn. If you find one false, say at which input.
  Laid BY PROGRAM, IN A SANDBOX (cutbox-rows.mjs): the forced cells as the released guide's own fill.sh prints them over the translation 2ef7b8eb9a57f3c0… (all of the seat's roots in one cut). By AI agents, Wed Nov 11 2026. No macro, syntax, notation, axiom, sorry.
-/
import Derived.Test.Qxb6604512aChecked
import GoSem.Claim
import GoSem.ClaimJoined
import GoSem.ClaimMapViews
import Derived.JoinedTies
import Derived.KernelRfl
namespace Go.Proofs.Qxb6604512a
/- THE CELL 'sum', in the pinned program and in every row, IS THE sha256 OF THE DUMP (.gsa) THAT Qxb6604512aProg.lean LOADS. Nothing in Lean hashes anything: it is a label: what it is worth is what the hold of that sum in a sandbox is worth. -/
noncomputable def Try.pinned : Pinned := { name := "qxb6604512a", sum := "2ef7b8eb9a57f3c069a0fbb07a6776f46f96be49830cc20c17ef1a42dc847051", checked := Try.checked }
namespace Rows
def none {H : Type} : Left H := { results := [], args := [] }

/-- 'zzlaws_root_b1.FnSeqAgreesWithLinearLookup': WHATEVER THE INPUT: true; the input reads as it did. -/
def fnSeqAgreesWithLinearLookupSpec : ChangeSpec := { name := "fnSeqAgreesWithLinearLookup", fn := fun _ => fun
  | [d1, d2, d3] => { results := [.lit (.bool true)], args := [d1, d2, d3] }
  | _ => none }
def fnSeqAgreesWithLinearLookupRow : OpenClaim := { program := "qxb6604512a", sum := "2ef7b8eb9a57f3c069a0fbb07a6776f46f96be49830cc20c17ef1a42dc847051", func := "example.com/syncline/syncline/zzlaws_root_b1.FnSeqAgreesWithLinearLookup", spec := "fnSeqAgreesWithLinearLookup", inPlace := ["internal/bytealg.Compare"], unfollowed := true, recurses := true, apart := false }
def FnSeqAgreesWithLinearLookupSaid : Prop := fnSeqAgreesWithLinearLookupRow.holds Try.pinned (OpenSpec.ofChange fnSeqAgreesWithLinearLookupSpec)

/-- ITS FALSE NEIGHBOUR: 'it returns false'. Refute it at one input. -/
def fnSeqAgreesWithLinearLookupWrong : ChangeSpec := { name := "fnSeqAgreesWithLinearLookup", fn := fun _ => fun
  | [d1, d2, d3] => { results := [.lit (.bool false)], args := [d1, d2, d3] }
  | _ => none }
def FnSeqAgreesWithLinearLookupWrongFalsely : Prop := fnSeqAgreesWithLinearLookupRow.holds Try.pinned (OpenSpec.ofChange fnSeqAgreesWithLinearLookupWrong)

/-- 'zzlaws_root_b1.FnSeqRecallsEveryHeldPair': WHATEVER THE INPUT: true; the input reads as it did. -/
def fnSeqRecallsEveryHeldPairSpec : ChangeSpec := { name := "fnSeqRecallsEveryHeldPair", fn := fun _ => fun
  | [d] => { results := [.lit (.bool true)], args := [d] }
  | _ => none }
def fnSeqRecallsEveryHeldPairRow : OpenClaim := { program := "qxb6604512a", sum := "2ef7b8eb9a57f3c069a0fbb07a6776f46f96be49830cc20c17ef1a42dc847051", func := "example.com/syncline/syncline/zzlaws_root_b1.FnSeqRecallsEveryHeldPair", spec := "fnSeqRecallsEveryHeldPair", inPlace := ["internal/bytealg.Compare"], unfollowed := true, recurses := true, apart := false }
def FnSeqRecallsEveryHeldPairSaid : Prop := fnSeqRecallsEveryHeldPairRow.holds Try.pinned (OpenSpec.ofChange fnSeqRecallsEveryHeldPairSpec)

/-- ITS FALSE NEIGHBOUR: 'it returns false'. Refute it at one input. -/
def fnSeqRecallsEveryHeldPairWrong : ChangeSpec := { name := "fnSeqRecallsEveryHeldPair", fn := fun _ => fun
  | [d] => { results := [.lit (.bool false)], args := [d] }
  | _ => none }
def FnSeqRecallsEveryHeldPairWrongFalsely : Prop := fnSeqRecallsEveryHeldPairRow.holds Try.pinned (OpenSpec.ofChange fnSeqRecallsEveryHeldPairWrong)

/-- 'zzlaws_root_b1.FnKeyOfParsesBackToName': WHATEVER THE INPUT: true; the input reads as it did. -/
def fnKeyOfParsesBackToNameSpec : ChangeSpec := { name := "fnKeyOfParsesBackToName", fn := fun _ => fun
  | [d1, d2] => { results := [.lit (.bool true)], args := [d1, d2] }
  | _ => none }
def fnKeyOfParsesBackToNameRow : OpenClaim := { program := "qxb6604512a", sum := "2ef7b8eb9a57f3c069a0fbb07a6776f46f96be49830cc20c17ef1a42dc847051", func := "example.com/syncline/syncline/zzlaws_root_b1.FnKeyOfParsesBackToName", spec := "fnKeyOfParsesBackToName", named := ["encoding/binary.BigEndian"], apart := false }
def FnKeyOfParsesBackToNameSaid : Prop := fnKeyOfParsesBackToNameRow.holds Try.pinned (OpenSpec.ofChange fnKeyOfParsesBackToNameSpec)

/-- ITS FALSE NEIGHBOUR: 'it returns false'. Refute it at one input. -/
def fnKeyOfParsesBackToNameWrong : ChangeSpec := { name := "fnKeyOfParsesBackToName", fn := fun _ => fun
  | [d1, d2] => { results := [.lit (.bool false)], args := [d1, d2] }
  | _ => none }
def FnKeyOfParsesBackToNameWrongFalsely : Prop := fnKeyOfParsesBackToNameRow.holds Try.pinned (OpenSpec.ofChange fnKeyOfParsesBackToNameWrong)

/-- 'zzlaws_root_b1.FnKeyOfEqualExactlyForEqualPairs': WHATEVER THE INPUT: true; the input reads as it did. -/
def fnKeyOfEqualExactlyForEqualPairsSpec : ChangeSpec := { name := "fnKeyOfEqualExactlyForEqualPairs", fn := fun _ => fun
  | [d1, d2, d3, d4] => { results := [.lit (.bool true)], args := [d1, d2, d3, d4] }
  | _ => none }
def fnKeyOfEqualExactlyForEqualPairsRow : OpenClaim := { program := "qxb6604512a", sum := "2ef7b8eb9a57f3c069a0fbb07a6776f46f96be49830cc20c17ef1a42dc847051", func := "example.com/syncline/syncline/zzlaws_root_b1.FnKeyOfEqualExactlyForEqualPairs", spec := "fnKeyOfEqualExactlyForEqualPairs", named := ["encoding/binary.BigEndian"], apart := false }
def FnKeyOfEqualExactlyForEqualPairsSaid : Prop := fnKeyOfEqualExactlyForEqualPairsRow.holds Try.pinned (OpenSpec.ofChange fnKeyOfEqualExactlyForEqualPairsSpec)

/-- ITS FALSE NEIGHBOUR: 'it returns false'. Refute it at one input. -/
def fnKeyOfEqualExactlyForEqualPairsWrong : ChangeSpec := { name := "fnKeyOfEqualExactlyForEqualPairs", fn := fun _ => fun
  | [d1, d2, d3, d4] => { results := [.lit (.bool false)], args := [d1, d2, d3, d4] }
  | _ => none }
def FnKeyOfEqualExactlyForEqualPairsWrongFalsely : Prop := fnKeyOfEqualExactlyForEqualPairsRow.holds Try.pinned (OpenSpec.ofChange fnKeyOfEqualExactlyForEqualPairsWrong)

/-- 'zzlaws_root_b1.FnAppendWireParsesBackToVector': WHATEVER THE INPUT: true; the input reads as it did. -/
def fnAppendWireParsesBackToVectorSpec : ChangeSpec := { name := "fnAppendWireParsesBackToVector", fn := fun _ => fun
  | [d1, d2] => { results := [.lit (.bool true)], args := [d1, d2] }
  | _ => none }
def fnAppendWireParsesBackToVectorRow : OpenClaim := { program := "qxb6604512a", sum := "2ef7b8eb9a57f3c069a0fbb07a6776f46f96be49830cc20c17ef1a42dc847051", func := "example.com/syncline/syncline/zzlaws_root_b1.FnAppendWireParsesBackToVector", spec := "fnAppendWireParsesBackToVector", named := ["encoding/binary.BigEndian"], apart := false }
def FnAppendWireParsesBackToVectorSaid : Prop := fnAppendWireParsesBackToVectorRow.holds Try.pinned (OpenSpec.ofChange fnAppendWireParsesBackToVectorSpec)

/-- ITS FALSE NEIGHBOUR: 'it returns false'. Refute it at one input. -/
def fnAppendWireParsesBackToVectorWrong : ChangeSpec := { name := "fnAppendWireParsesBackToVector", fn := fun _ => fun
  | [d1, d2] => { results := [.lit (.bool false)], args := [d1, d2] }
  | _ => none }
def FnAppendWireParsesBackToVectorWrongFalsely : Prop := fnAppendWireParsesBackToVectorRow.holds Try.pinned (OpenSpec.ofChange fnAppendWireParsesBackToVectorWrong)

/-- 'zzlaws_root_b1.FnAppendWireSizeAndPrefix': WHATEVER THE INPUT: true; the input reads as it did. -/
def fnAppendWireSizeAndPrefixSpec : ChangeSpec := { name := "fnAppendWireSizeAndPrefix", fn := fun _ => fun
  | [d1, d2] => { results := [.lit (.bool true)], args := [d1, d2] }
  | _ => none }
def fnAppendWireSizeAndPrefixRow : OpenClaim := { program := "qxb6604512a", sum := "2ef7b8eb9a57f3c069a0fbb07a6776f46f96be49830cc20c17ef1a42dc847051", func := "example.com/syncline/syncline/zzlaws_root_b1.FnAppendWireSizeAndPrefix", spec := "fnAppendWireSizeAndPrefix", named := ["encoding/binary.BigEndian"], apart := false }
def FnAppendWireSizeAndPrefixSaid : Prop := fnAppendWireSizeAndPrefixRow.holds Try.pinned (OpenSpec.ofChange fnAppendWireSizeAndPrefixSpec)

/-- ITS FALSE NEIGHBOUR: 'it returns false'. Refute it at one input. -/
def fnAppendWireSizeAndPrefixWrong : ChangeSpec := { name := "fnAppendWireSizeAndPrefix", fn := fun _ => fun
  | [d1, d2] => { results := [.lit (.bool false)], args := [d1, d2] }
  | _ => none }
def FnAppendWireSizeAndPrefixWrongFalsely : Prop := fnAppendWireSizeAndPrefixRow.holds Try.pinned (OpenSpec.ofChange fnAppendWireSizeAndPrefixWrong)

end Rows
end Go.Proofs.Qxb6604512a
