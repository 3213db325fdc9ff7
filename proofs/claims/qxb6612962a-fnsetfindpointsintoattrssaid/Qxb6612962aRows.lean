/-
  No cell of these rows narrows 'for every input' (looked for: loops, veiled, ifaces, maps, wideKeys, modest, calm, conditions, laid).
  DERIVED. THE GIVEN ROWS OF THIS SEAT. 6 by the template 'for every input the law returns true; each argument reads behind the call as it read before'; 0 by the template 'total and deterministic' (their statements: Qxb6612962aTotals.lean).
  GIVEN WITH THE SEED: the statements are not yours to turn. If you find one false, say at which input.
  Laid BY PROGRAM, IN A SANDBOX (cutbox-rows.mjs): the forced cells as the released guide's own fill.sh prints them over the translation 3b7c48959abec5d8… (all of the seat's roots in one cut). By AI agents, Wed Nov 11 2026. No macro, syntax, notation, axiom, sorry.
-/
import Derived.Test.Qxb6612962aChecked
import GoSem.Claim
import GoSem.ClaimJoined
import GoSem.ClaimMapViews
import Derived.JoinedTies
import Derived.KernelRfl
namespace Go.Proofs.Qxb6612962a
/- THE CELL 'sum', in the pinned program and in every row, IS THE sha256 OF THE DUMP (.gsa) THAT Qxb6612962aProg.lean LOADS. Nothing in Lean hashes anything: it is a label: what it is worth is what the hold of that sum in a sandbox is worth. -/
noncomputable def Try.pinned : Pinned := { name := "qxb6612962a", sum := "3b7c48959abec5d8668ca1df1fd75b54116cab7070249f1e2004ff9cfc684956", checked := Try.checked }
namespace Rows
def none {H : Type} : Left H := { results := [], args := [] }

/-- 'zzlaws_internal_eval_b1.FnBase32LenFiveBytesEightDigits': WHATEVER THE INPUT: true; the input reads as it did. -/
def fnBase32LenFiveBytesEightDigitsSpec : ChangeSpec := { name := "fnBase32LenFiveBytesEightDigits", fn := fun _ => fun
  | [d] => { results := [.lit (.bool true)], args := [d] }
  | _ => none }
def fnBase32LenFiveBytesEightDigitsRow : OpenClaim := { program := "qxb6612962a", sum := "3b7c48959abec5d8668ca1df1fd75b54116cab7070249f1e2004ff9cfc684956", func := "example.com/weland/weland/zzlaws_internal_eval_b1.FnBase32LenFiveBytesEightDigits", spec := "fnBase32LenFiveBytesEightDigits", apart := false }
def FnBase32LenFiveBytesEightDigitsSaid : Prop := fnBase32LenFiveBytesEightDigitsRow.holds Try.pinned (OpenSpec.ofChange fnBase32LenFiveBytesEightDigitsSpec)

/-- ITS FALSE NEIGHBOUR: 'it returns false'. Refute it at one input. -/
def fnBase32LenFiveBytesEightDigitsWrong : ChangeSpec := { name := "fnBase32LenFiveBytesEightDigits", fn := fun _ => fun
  | [d] => { results := [.lit (.bool false)], args := [d] }
  | _ => none }
def FnBase32LenFiveBytesEightDigitsWrongFalsely : Prop := fnBase32LenFiveBytesEightDigitsRow.holds Try.pinned (OpenSpec.ofChange fnBase32LenFiveBytesEightDigitsWrong)

/-- 'zzlaws_internal_eval_b1.FnBase32LenSplitAtAnyCut': WHATEVER THE INPUT: true; the input reads as it did. -/
def fnBase32LenSplitAtAnyCutSpec : ChangeSpec := { name := "fnBase32LenSplitAtAnyCut", fn := fun _ => fun
  | [d1, d2] => { results := [.lit (.bool true)], args := [d1, d2] }
  | _ => none }
def fnBase32LenSplitAtAnyCutRow : OpenClaim := { program := "qxb6612962a", sum := "3b7c48959abec5d8668ca1df1fd75b54116cab7070249f1e2004ff9cfc684956", func := "example.com/weland/weland/zzlaws_internal_eval_b1.FnBase32LenSplitAtAnyCut", spec := "fnBase32LenSplitAtAnyCut", apart := false }
def FnBase32LenSplitAtAnyCutSaid : Prop := fnBase32LenSplitAtAnyCutRow.holds Try.pinned (OpenSpec.ofChange fnBase32LenSplitAtAnyCutSpec)

/-- ITS FALSE NEIGHBOUR: 'it returns false'. Refute it at one input. -/
def fnBase32LenSplitAtAnyCutWrong : ChangeSpec := { name := "fnBase32LenSplitAtAnyCut", fn := fun _ => fun
  | [d1, d2] => { results := [.lit (.bool false)], args := [d1, d2] }
  | _ => none }
def FnBase32LenSplitAtAnyCutWrongFalsely : Prop := fnBase32LenSplitAtAnyCutRow.holds Try.pinned (OpenSpec.ofChange fnBase32LenSplitAtAnyCutWrong)

/-- 'zzlaws_internal_eval_b1.FnSetAttrsAreNamesInByteOrder': WHATEVER THE INPUT: true; the input reads as it did. -/
def fnSetAttrsAreNamesInByteOrderSpec : ChangeSpec := { name := "fnSetAttrsAreNamesInByteOrder", fn := fun _ => fun
  | [d] => { results := [.lit (.bool true)], args := [d] }
  | _ => none }
def fnSetAttrsAreNamesInByteOrderRow : OpenClaim := { program := "qxb6612962a", sum := "3b7c48959abec5d8668ca1df1fd75b54116cab7070249f1e2004ff9cfc684956", func := "example.com/weland/weland/zzlaws_internal_eval_b1.FnSetAttrsAreNamesInByteOrder", spec := "fnSetAttrsAreNamesInByteOrder", inPlace := ["internal/bytealg.abigen_runtime_cmpstring"], unfollowed := true, recurses := true, apart := false }
def FnSetAttrsAreNamesInByteOrderSaid : Prop := fnSetAttrsAreNamesInByteOrderRow.holds Try.pinned (OpenSpec.ofChange fnSetAttrsAreNamesInByteOrderSpec)

/-- ITS FALSE NEIGHBOUR: 'it returns false'. Refute it at one input. -/
def fnSetAttrsAreNamesInByteOrderWrong : ChangeSpec := { name := "fnSetAttrsAreNamesInByteOrder", fn := fun _ => fun
  | [d] => { results := [.lit (.bool false)], args := [d] }
  | _ => none }
def FnSetAttrsAreNamesInByteOrderWrongFalsely : Prop := fnSetAttrsAreNamesInByteOrderRow.holds Try.pinned (OpenSpec.ofChange fnSetAttrsAreNamesInByteOrderWrong)

/-- 'zzlaws_internal_eval_b1.FnSetAttrsSameForReversedInput': WHATEVER THE INPUT: true; the input reads as it did. -/
def fnSetAttrsSameForReversedInputSpec : ChangeSpec := { name := "fnSetAttrsSameForReversedInput", fn := fun _ => fun
  | [d] => { results := [.lit (.bool true)], args := [d] }
  | _ => none }
def fnSetAttrsSameForReversedInputRow : OpenClaim := { program := "qxb6612962a", sum := "3b7c48959abec5d8668ca1df1fd75b54116cab7070249f1e2004ff9cfc684956", func := "example.com/weland/weland/zzlaws_internal_eval_b1.FnSetAttrsSameForReversedInput", spec := "fnSetAttrsSameForReversedInput", inPlace := ["internal/bytealg.abigen_runtime_cmpstring"], unfollowed := true, recurses := true, apart := false }
def FnSetAttrsSameForReversedInputSaid : Prop := fnSetAttrsSameForReversedInputRow.holds Try.pinned (OpenSpec.ofChange fnSetAttrsSameForReversedInputSpec)

/-- ITS FALSE NEIGHBOUR: 'it returns false'. Refute it at one input. -/
def fnSetAttrsSameForReversedInputWrong : ChangeSpec := { name := "fnSetAttrsSameForReversedInput", fn := fun _ => fun
  | [d] => { results := [.lit (.bool false)], args := [d] }
  | _ => none }
def FnSetAttrsSameForReversedInputWrongFalsely : Prop := fnSetAttrsSameForReversedInputRow.holds Try.pinned (OpenSpec.ofChange fnSetAttrsSameForReversedInputWrong)

/-- 'zzlaws_internal_eval_b1.FnSetFindIsMembership': WHATEVER THE INPUT: true; the input reads as it did. -/
def fnSetFindIsMembershipSpec : ChangeSpec := { name := "fnSetFindIsMembership", fn := fun _ => fun
  | [d1, d2] => { results := [.lit (.bool true)], args := [d1, d2] }
  | _ => none }
def fnSetFindIsMembershipRow : OpenClaim := { program := "qxb6612962a", sum := "3b7c48959abec5d8668ca1df1fd75b54116cab7070249f1e2004ff9cfc684956", func := "example.com/weland/weland/zzlaws_internal_eval_b1.FnSetFindIsMembership", spec := "fnSetFindIsMembership", inPlace := ["internal/bytealg.abigen_runtime_cmpstring"], unfollowed := true, recurses := true, apart := false }
def FnSetFindIsMembershipSaid : Prop := fnSetFindIsMembershipRow.holds Try.pinned (OpenSpec.ofChange fnSetFindIsMembershipSpec)

/-- ITS FALSE NEIGHBOUR: 'it returns false'. Refute it at one input. -/
def fnSetFindIsMembershipWrong : ChangeSpec := { name := "fnSetFindIsMembership", fn := fun _ => fun
  | [d1, d2] => { results := [.lit (.bool false)], args := [d1, d2] }
  | _ => none }
def FnSetFindIsMembershipWrongFalsely : Prop := fnSetFindIsMembershipRow.holds Try.pinned (OpenSpec.ofChange fnSetFindIsMembershipWrong)

/-- 'zzlaws_internal_eval_b1.FnSetFindPointsIntoAttrs': WHATEVER THE INPUT: true; the input reads as it did. -/
def fnSetFindPointsIntoAttrsSpec : ChangeSpec := { name := "fnSetFindPointsIntoAttrs", fn := fun _ => fun
  | [d] => { results := [.lit (.bool true)], args := [d] }
  | _ => none }
def fnSetFindPointsIntoAttrsRow : OpenClaim := { program := "qxb6612962a", sum := "3b7c48959abec5d8668ca1df1fd75b54116cab7070249f1e2004ff9cfc684956", func := "example.com/weland/weland/zzlaws_internal_eval_b1.FnSetFindPointsIntoAttrs", spec := "fnSetFindPointsIntoAttrs", inPlace := ["internal/bytealg.abigen_runtime_cmpstring"], unfollowed := true, recurses := true, apart := false }
def FnSetFindPointsIntoAttrsSaid : Prop := fnSetFindPointsIntoAttrsRow.holds Try.pinned (OpenSpec.ofChange fnSetFindPointsIntoAttrsSpec)

/-- ITS FALSE NEIGHBOUR: 'it returns false'. Refute it at one input. -/
def fnSetFindPointsIntoAttrsWrong : ChangeSpec := { name := "fnSetFindPointsIntoAttrs", fn := fun _ => fun
  | [d] => { results := [.lit (.bool false)], args := [d] }
  | _ => none }
def FnSetFindPointsIntoAttrsWrongFalsely : Prop := fnSetFindPointsIntoAttrsRow.holds Try.pinned (OpenSpec.ofChange fnSetFindPointsIntoAttrsWrong)

end Rows
end Go.Proofs.Qxb6612962a
