/-
  No cell of these rows narrows 'for every input' (looked for: loops, veiled, ifaces, maps, wideKeys, modest, calm, conditions, laid).
  DERIVED. THE GIVEN ROWS OF THIS SEAT. 4 by the template 'for every input the law returns true; each argument reads behind the call as it read before'; 0 by the template 'total and deterministic' (their statements: Qxb6604467aTotals.lean).
  GIVEN WITH THE SEED: the statements are not yours to turn. If you find one false, say at which input.
  Laid BY PROGRAM, IN A SANDBOX (cutbox-rows.mjs): the forced cells as the released guide's own fill.sh prints them over the translation fb8b082242270b8c… (all of the seat's roots in one cut). By AI agents, Wed Nov 11 2026. No macro, syntax, notation, axiom, sorry.
-/
import Derived.Test.Qxb6604467aChecked
import GoSem.Claim
import GoSem.ClaimJoined
import GoSem.ClaimMapViews
import Derived.JoinedTies
import Derived.KernelRfl
namespace Go.Proofs.Qxb6604467a
/- THE CELL 'sum', in the pinned program and in every row, IS THE sha256 OF THE DUMP (.gsa) THAT Qxb6604467aProg.lean LOADS. Nothing in Lean hashes anything: it is a label: what it is worth is what the hold of that sum in a sandbox is worth. -/
noncomputable def Try.pinned : Pinned := { name := "qxb6604467a", sum := "fb8b082242270b8c3fa331bc9a8d880c481bf8c16e1176e05656c6b6a77e6a76", checked := Try.checked }
namespace Rows
def none {H : Type} : Left H := { results := [], args := [] }

/-- 'zzlaws_internal_datatype_b1.FnSourcesEachGetAloneAndSpelled': WHATEVER THE INPUT: true; the input reads as it did. -/
def fnSourcesEachGetAloneAndSpelledSpec : ChangeSpec := { name := "fnSourcesEachGetAloneAndSpelled", fn := fun _ => fun
  | [d1, d2] => { results := [.lit (.bool true)], args := [d1, d2] }
  | _ => none }
def fnSourcesEachGetAloneAndSpelledRow : OpenClaim := { program := "qxb6604467a", sum := "fb8b082242270b8c3fa331bc9a8d880c481bf8c16e1176e05656c6b6a77e6a76", func := "example.com/concordance/concordance/zzlaws_internal_datatype_b1.FnSourcesEachGetAloneAndSpelled", spec := "fnSourcesEachGetAloneAndSpelled", plainKeys := false, apart := false }
def FnSourcesEachGetAloneAndSpelledSaid : Prop := fnSourcesEachGetAloneAndSpelledRow.holds Try.pinned (OpenSpec.ofChange fnSourcesEachGetAloneAndSpelledSpec)

/-- ITS FALSE NEIGHBOUR: 'it returns false'. Refute it at one input. -/
def fnSourcesEachGetAloneAndSpelledWrong : ChangeSpec := { name := "fnSourcesEachGetAloneAndSpelled", fn := fun _ => fun
  | [d1, d2] => { results := [.lit (.bool false)], args := [d1, d2] }
  | _ => none }
def FnSourcesEachGetAloneAndSpelledWrongFalsely : Prop := fnSourcesEachGetAloneAndSpelledRow.holds Try.pinned (OpenSpec.ofChange fnSourcesEachGetAloneAndSpelledWrong)

/-- 'zzlaws_internal_datatype_b1.FnParamsReadsAsKeywordList': WHATEVER THE INPUT: true; the input reads as it did. -/
def fnParamsReadsAsKeywordListSpec : ChangeSpec := { name := "fnParamsReadsAsKeywordList", fn := fun _ => fun
  | [d1, d2] => { results := [.lit (.bool true)], args := [d1, d2] }
  | _ => none }
def fnParamsReadsAsKeywordListRow : OpenClaim := { program := "qxb6604467a", sum := "fb8b082242270b8c3fa331bc9a8d880c481bf8c16e1176e05656c6b6a77e6a76", func := "example.com/concordance/concordance/zzlaws_internal_datatype_b1.FnParamsReadsAsKeywordList", spec := "fnParamsReadsAsKeywordList", inPlace := ["internal/abi.NoEscape", "internal/bytealg.MakeNoZero"], plainKeys := false, apart := false }
def FnParamsReadsAsKeywordListSaid : Prop := fnParamsReadsAsKeywordListRow.holds Try.pinned (OpenSpec.ofChange fnParamsReadsAsKeywordListSpec)

/-- ITS FALSE NEIGHBOUR: 'it returns false'. Refute it at one input. -/
def fnParamsReadsAsKeywordListWrong : ChangeSpec := { name := "fnParamsReadsAsKeywordList", fn := fun _ => fun
  | [d1, d2] => { results := [.lit (.bool false)], args := [d1, d2] }
  | _ => none }
def FnParamsReadsAsKeywordListWrongFalsely : Prop := fnParamsReadsAsKeywordListRow.holds Try.pinned (OpenSpec.ofChange fnParamsReadsAsKeywordListWrong)

/-- 'zzlaws_internal_datatype_b1.FnParamsLengthAndReadBack': WHATEVER THE INPUT: true; the input reads as it did. -/
def fnParamsLengthAndReadBackSpec : ChangeSpec := { name := "fnParamsLengthAndReadBack", fn := fun _ => fun
  | [d1, d2] => { results := [.lit (.bool true)], args := [d1, d2] }
  | _ => none }
def fnParamsLengthAndReadBackRow : OpenClaim := { program := "qxb6604467a", sum := "fb8b082242270b8c3fa331bc9a8d880c481bf8c16e1176e05656c6b6a77e6a76", func := "example.com/concordance/concordance/zzlaws_internal_datatype_b1.FnParamsLengthAndReadBack", spec := "fnParamsLengthAndReadBack", inPlace := ["internal/abi.NoEscape", "internal/bytealg.MakeNoZero"], plainKeys := false, apart := false }
def FnParamsLengthAndReadBackSaid : Prop := fnParamsLengthAndReadBackRow.holds Try.pinned (OpenSpec.ofChange fnParamsLengthAndReadBackSpec)

/-- ITS FALSE NEIGHBOUR: 'it returns false'. Refute it at one input. -/
def fnParamsLengthAndReadBackWrong : ChangeSpec := { name := "fnParamsLengthAndReadBack", fn := fun _ => fun
  | [d1, d2] => { results := [.lit (.bool false)], args := [d1, d2] }
  | _ => none }
def FnParamsLengthAndReadBackWrongFalsely : Prop := fnParamsLengthAndReadBackRow.holds Try.pinned (OpenSpec.ofChange fnParamsLengthAndReadBackWrong)

/-- 'zzlaws_internal_datatype_b1.FnNewSpecIndexesOpsByName': WHATEVER THE INPUT: true; the input reads as it did. -/
def fnNewSpecIndexesOpsByNameSpec : ChangeSpec := { name := "fnNewSpecIndexesOpsByName", fn := fun _ => fun
  | [d1, d2] => { results := [.lit (.bool true)], args := [d1, d2] }
  | _ => none }
def fnNewSpecIndexesOpsByNameRow : OpenClaim := { program := "qxb6604467a", sum := "fb8b082242270b8c3fa331bc9a8d880c481bf8c16e1176e05656c6b6a77e6a76", func := "example.com/concordance/concordance/zzlaws_internal_datatype_b1.FnNewSpecIndexesOpsByName", spec := "fnNewSpecIndexesOpsByName", plainKeys := false, apart := false }
def FnNewSpecIndexesOpsByNameSaid : Prop := fnNewSpecIndexesOpsByNameRow.holds Try.pinned (OpenSpec.ofChange fnNewSpecIndexesOpsByNameSpec)

/-- ITS FALSE NEIGHBOUR: 'it returns false'. Refute it at one input. -/
def fnNewSpecIndexesOpsByNameWrong : ChangeSpec := { name := "fnNewSpecIndexesOpsByName", fn := fun _ => fun
  | [d1, d2] => { results := [.lit (.bool false)], args := [d1, d2] }
  | _ => none }
def FnNewSpecIndexesOpsByNameWrongFalsely : Prop := fnNewSpecIndexesOpsByNameRow.holds Try.pinned (OpenSpec.ofChange fnNewSpecIndexesOpsByNameWrong)

end Rows
end Go.Proofs.Qxb6604467a
