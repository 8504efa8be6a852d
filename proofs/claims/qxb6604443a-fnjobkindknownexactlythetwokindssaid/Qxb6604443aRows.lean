/-
  No cell of these rows narrows 'for every input' (looked for: loops, veiled, ifaces, maps, wideKeys, modest, calm, conditions, laid).
  DERIVED. THE GIVEN ROWS OF THIS SEAT. 1 by the template 'for every input the law returns true; each argument reads behind the call as it read before'; 0 by the template 'total and deterministic' (their statements: Qxb6604443aTotals.lean).
  GIVEN WITH THE SEED: the statements are not yours to turn. If you find one false, say at which input.
  Laid BY PROGRAM, IN A SANDBOX (cutbox-rows.mjs): the forced cells as the released guide's own fill.sh prints them over the translation ae3312af94525738… (all of the seat's roots in one cut). By AI agents, Wed Nov 11 2026. No macro, syntax, notation, axiom, sorry.
-/
import Derived.Test.Qxb6604443aChecked
import GoSem.Claim
import GoSem.ClaimJoined
import GoSem.ClaimMapViews
import Derived.JoinedTies
import Derived.KernelRfl
namespace Go.Proofs.Qxb6604443a
/- THE CELL 'sum', in the pinned program and in every row, IS THE sha256 OF THE DUMP (.gsa) THAT Qxb6604443aProg.lean LOADS. Nothing in Lean hashes anything: it is a label: what it is worth is what the hold of that sum in a sandbox is worth. -/
noncomputable def Try.pinned : Pinned := { name := "qxb6604443a", sum := "ae3312af94525738e1c9bd1f2831d445e41d6d6f0a850406940da90e7aa7cbd8", checked := Try.checked }
namespace Rows
def none {H : Type} : Left H := { results := [], args := [] }

/-- 'zzlaws_pkg_mapreduce_b1.FnJobKindKnownExactlyTheTwoKinds': WHATEVER THE INPUT: true; the input reads as it did. -/
def fnJobKindKnownExactlyTheTwoKindsSpec : ChangeSpec := { name := "fnJobKindKnownExactlyTheTwoKinds", fn := fun _ => fun
  | [d] => { results := [.lit (.bool true)], args := [d] }
  | _ => none }
def fnJobKindKnownExactlyTheTwoKindsRow : OpenClaim := { program := "qxb6604443a", sum := "ae3312af94525738e1c9bd1f2831d445e41d6d6f0a850406940da90e7aa7cbd8", func := "example.com/tierfold/tierfold/zzlaws_pkg_mapreduce_b1.FnJobKindKnownExactlyTheTwoKinds", spec := "fnJobKindKnownExactlyTheTwoKinds", apart := false }
def FnJobKindKnownExactlyTheTwoKindsSaid : Prop := fnJobKindKnownExactlyTheTwoKindsRow.holds Try.pinned (OpenSpec.ofChange fnJobKindKnownExactlyTheTwoKindsSpec)

/-- ITS FALSE NEIGHBOUR: 'it returns false'. Refute it at one input. -/
def fnJobKindKnownExactlyTheTwoKindsWrong : ChangeSpec := { name := "fnJobKindKnownExactlyTheTwoKinds", fn := fun _ => fun
  | [d] => { results := [.lit (.bool false)], args := [d] }
  | _ => none }
def FnJobKindKnownExactlyTheTwoKindsWrongFalsely : Prop := fnJobKindKnownExactlyTheTwoKindsRow.holds Try.pinned (OpenSpec.ofChange fnJobKindKnownExactlyTheTwoKindsWrong)

end Rows
end Go.Proofs.Qxb6604443a
