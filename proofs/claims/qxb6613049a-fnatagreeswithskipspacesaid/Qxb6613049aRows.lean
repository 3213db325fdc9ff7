/-
  No cell of these rows narrows 'for every input' (looked for: loops, veiled, ifaces, maps, wideKeys, modest, calm, conditions, laid).
  DERIVED. THE GIVEN ROWS OF THIS SEAT. 3 by the template 'for every input the law returns true; each argument reads behind the call as it read before'; 0 by the template 'total and deterministic' (their statements: Qxb6613049aTotals.lean).
  GIVEN WITH THE SEED: the statements are not yours to turn. If you find one false, say at which input.
  Laid BY PROGRAM, IN A SANDBOX (cutbox-rows.mjs): the forced cells as the released guide's own fill.sh prints them over the translation 82874fe444fa3b54… (all of the seat's roots in one cut). By AI agents, Wed Nov 11 2026. No macro, syntax, notation, axiom, sorry.
-/
import Derived.Test.Qxb6613049aChecked
import GoSem.Claim
import GoSem.ClaimJoined
import GoSem.ClaimMapViews
import Derived.JoinedTies
import Derived.KernelRfl
namespace Go.Proofs.Qxb6613049a
/- THE CELL 'sum', in the pinned program and in every row, IS THE sha256 OF THE DUMP (.gsa) THAT Qxb6613049aProg.lean LOADS. Nothing in Lean hashes anything: it is a label: what it is worth is what the hold of that sum in a sandbox is worth. -/
noncomputable def Try.pinned : Pinned := { name := "qxb6613049a", sum := "82874fe444fa3b54d3e6a6ae8e5ffc5be6da608f8f26ceb8f8ce5006c7f7e025", checked := Try.checked }
namespace Rows
def none {H : Type} : Left H := { results := [], args := [] }

/-- 'zzlaws_root_b1.FnAtAgreesWithSkipSpace': WHATEVER THE INPUT: true; the input reads as it did. -/
def fnAtAgreesWithSkipSpaceSpec : ChangeSpec := { name := "fnAtAgreesWithSkipSpace", fn := fun _ => fun
  | [d1, d2, d3] => { results := [.lit (.bool true)], args := [d1, d2, d3] }
  | _ => none }
def fnAtAgreesWithSkipSpaceRow : OpenClaim := { program := "qxb6613049a", sum := "82874fe444fa3b54d3e6a6ae8e5ffc5be6da608f8f26ceb8f8ce5006c7f7e025", func := "example.com/rungs/rungs/zzlaws_root_b1.FnAtAgreesWithSkipSpace", spec := "fnAtAgreesWithSkipSpace", apart := false }
def FnAtAgreesWithSkipSpaceSaid : Prop := fnAtAgreesWithSkipSpaceRow.holds Try.pinned (OpenSpec.ofChange fnAtAgreesWithSkipSpaceSpec)

/-- ITS FALSE NEIGHBOUR: 'it returns false'. Refute it at one input. -/
def fnAtAgreesWithSkipSpaceWrong : ChangeSpec := { name := "fnAtAgreesWithSkipSpace", fn := fun _ => fun
  | [d1, d2, d3] => { results := [.lit (.bool false)], args := [d1, d2, d3] }
  | _ => none }
def FnAtAgreesWithSkipSpaceWrongFalsely : Prop := fnAtAgreesWithSkipSpaceRow.holds Try.pinned (OpenSpec.ofChange fnAtAgreesWithSkipSpaceWrong)

/-- 'zzlaws_root_b1.FnStatusErrorTextNamesStatusOnly': WHATEVER THE INPUT: true; the input reads as it did. -/
def fnStatusErrorTextNamesStatusOnlySpec : ChangeSpec := { name := "fnStatusErrorTextNamesStatusOnly", fn := fun _ => fun
  | [d1, d2, d3, d4] => { results := [.lit (.bool true)], args := [d1, d2, d3, d4] }
  | _ => none }
def fnStatusErrorTextNamesStatusOnlyRow : OpenClaim := { program := "qxb6613049a", sum := "82874fe444fa3b54d3e6a6ae8e5ffc5be6da608f8f26ceb8f8ce5006c7f7e025", func := "example.com/rungs/rungs/zzlaws_root_b1.FnStatusErrorTextNamesStatusOnly", spec := "fnStatusErrorTextNamesStatusOnly", apart := false }
def FnStatusErrorTextNamesStatusOnlySaid : Prop := fnStatusErrorTextNamesStatusOnlyRow.holds Try.pinned (OpenSpec.ofChange fnStatusErrorTextNamesStatusOnlySpec)

/-- ITS FALSE NEIGHBOUR: 'it returns false'. Refute it at one input. -/
def fnStatusErrorTextNamesStatusOnlyWrong : ChangeSpec := { name := "fnStatusErrorTextNamesStatusOnly", fn := fun _ => fun
  | [d1, d2, d3, d4] => { results := [.lit (.bool false)], args := [d1, d2, d3, d4] }
  | _ => none }
def FnStatusErrorTextNamesStatusOnlyWrongFalsely : Prop := fnStatusErrorTextNamesStatusOnlyRow.holds Try.pinned (OpenSpec.ofChange fnStatusErrorTextNamesStatusOnlyWrong)

/-- 'zzlaws_root_b1.FnStatusErrorTextSplitsAtAnyCut': WHATEVER THE INPUT: true; the input reads as it did. -/
def fnStatusErrorTextSplitsAtAnyCutSpec : ChangeSpec := { name := "fnStatusErrorTextSplitsAtAnyCut", fn := fun _ => fun
  | [d1, d2, d3] => { results := [.lit (.bool true)], args := [d1, d2, d3] }
  | _ => none }
def fnStatusErrorTextSplitsAtAnyCutRow : OpenClaim := { program := "qxb6613049a", sum := "82874fe444fa3b54d3e6a6ae8e5ffc5be6da608f8f26ceb8f8ce5006c7f7e025", func := "example.com/rungs/rungs/zzlaws_root_b1.FnStatusErrorTextSplitsAtAnyCut", spec := "fnStatusErrorTextSplitsAtAnyCut", apart := false }
def FnStatusErrorTextSplitsAtAnyCutSaid : Prop := fnStatusErrorTextSplitsAtAnyCutRow.holds Try.pinned (OpenSpec.ofChange fnStatusErrorTextSplitsAtAnyCutSpec)

/-- ITS FALSE NEIGHBOUR: 'it returns false'. Refute it at one input. -/
def fnStatusErrorTextSplitsAtAnyCutWrong : ChangeSpec := { name := "fnStatusErrorTextSplitsAtAnyCut", fn := fun _ => fun
  | [d1, d2, d3] => { results := [.lit (.bool false)], args := [d1, d2, d3] }
  | _ => none }
def FnStatusErrorTextSplitsAtAnyCutWrongFalsely : Prop := fnStatusErrorTextSplitsAtAnyCutRow.holds Try.pinned (OpenSpec.ofChange fnStatusErrorTextSplitsAtAnyCutWrong)

end Rows
end Go.Proofs.Qxb6613049a
