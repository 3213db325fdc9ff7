/-
  No cell of these rows narrows 'for every input' (looked for: loops, veiled, ifaces, maps, wideKeys, modest, calm, conditions, laid).
  DERIVED. THE GIVEN ROWS OF THIS SEAT. 1 by the template 'for every input the law returns true; each argument reads behind the call as it read before'; 0 by the template 'total and deterministic' (their statements: Qxb6613821aTotals.lean).
  GIVEN WITH THE SEED: the statements are not yours to turn. If you find one false, say at which input.
  Laid BY PROGRAM, IN A SANDBOX (cutbox-rows.mjs): the forced cells as the released guide's own fill.sh prints them over the translation 216224692eeb9262… (all of the seat's roots in one cut). By AI agents, Wed Nov 11 2026. No macro, syntax, notation, axiom, sorry.
-/
import Derived.Test.Qxb6613821aChecked
import GoSem.Claim
import GoSem.ClaimJoined
import GoSem.ClaimMapViews
import Derived.JoinedTies
import Derived.KernelRfl
namespace Go.Proofs.Qxb6613821a
/- THE CELL 'sum', in the pinned program and in every row, IS THE sha256 OF THE DUMP (.gsa) THAT Qxb6613821aProg.lean LOADS. Nothing in Lean hashes anything: it is a label: what it is worth is what the hold of that sum in a sandbox is worth. -/
noncomputable def Try.pinned : Pinned := { name := "qxb6613821a", sum := "216224692eeb92621a82730c005038240114f39aa78a8e34468cd3ec6e74b5f6", checked := Try.checked }
namespace Rows
def none {H : Type} : Left H := { results := [], args := [] }

/-- 'zzlaws_root_b1.FnDrawsSetLoneTerminalIsOneBitInSharedRoom': WHATEVER THE INPUT: true; the input reads as it did. -/
def fnDrawsSetLoneTerminalIsOneBitInSharedRoomSpec : ChangeSpec := { name := "fnDrawsSetLoneTerminalIsOneBitInSharedRoom", fn := fun _ => fun
  | [d1, d2, d3, d4, d5] => { results := [.lit (.bool true)], args := [d1, d2, d3, d4, d5] }
  | _ => none }
def fnDrawsSetLoneTerminalIsOneBitInSharedRoomRow : OpenClaim := { program := "qxb6613821a", sum := "216224692eeb92621a82730c005038240114f39aa78a8e34468cd3ec6e74b5f6", func := "example.com/quorumsmith/quorumsmith/zzlaws_root_b1.FnDrawsSetLoneTerminalIsOneBitInSharedRoom", spec := "fnDrawsSetLoneTerminalIsOneBitInSharedRoom", plainKeys := false, apart := false }
def FnDrawsSetLoneTerminalIsOneBitInSharedRoomSaid : Prop := fnDrawsSetLoneTerminalIsOneBitInSharedRoomRow.holds Try.pinned (OpenSpec.ofChange fnDrawsSetLoneTerminalIsOneBitInSharedRoomSpec)

/-- ITS FALSE NEIGHBOUR: 'it returns false'. Refute it at one input. -/
def fnDrawsSetLoneTerminalIsOneBitInSharedRoomWrong : ChangeSpec := { name := "fnDrawsSetLoneTerminalIsOneBitInSharedRoom", fn := fun _ => fun
  | [d1, d2, d3, d4, d5] => { results := [.lit (.bool false)], args := [d1, d2, d3, d4, d5] }
  | _ => none }
def FnDrawsSetLoneTerminalIsOneBitInSharedRoomWrongFalsely : Prop := fnDrawsSetLoneTerminalIsOneBitInSharedRoomRow.holds Try.pinned (OpenSpec.ofChange fnDrawsSetLoneTerminalIsOneBitInSharedRoomWrong)

end Rows
end Go.Proofs.Qxb6613821a
