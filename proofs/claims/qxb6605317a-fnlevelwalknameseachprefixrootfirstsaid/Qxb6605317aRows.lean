/-
  No cell of these rows narrows 'for every input' (looked for: loops, veiled, ifaces, maps, wideKeys, modest, calm, conditions, laid).
  DERIVED. THE GIVEN ROWS OF THIS SEAT. 2 by the template 'for every input the law returns true; each argument reads behind the call as it read before'; 0 by the template 'total and deterministic' (their statements: Qxb6605317aTotals.lean).
  GIVEN WITH THE SEED: the statements are not yours to turn. If you find one false, say at which input.
  Laid BY PROGRAM, IN A SANDBOX (cutbox-rows.mjs): the forced cells as the released guide's own fill.sh prints them over the translation cffe2d53a12f1e53… (all of the seat's roots in one cut). By AI agents, Wed Nov 11 2026. No macro, syntax, notation, axiom, sorry.
-/
import Derived.Test.Qxb6605317aChecked
import GoSem.Claim
import GoSem.ClaimJoined
import GoSem.ClaimMapViews
import Derived.JoinedTies
import Derived.KernelRfl
namespace Go.Proofs.Qxb6605317a
/- THE CELL 'sum', in the pinned program and in every row, IS THE sha256 OF THE DUMP (.gsa) THAT Qxb6605317aProg.lean LOADS. Nothing in Lean hashes anything: it is a label: what it is worth is what the hold of that sum in a sandbox is worth. -/
noncomputable def Try.pinned : Pinned := { name := "qxb6605317a", sum := "cffe2d53a12f1e5344922e9cf4a3ccfcb94fd00f69fff4c94f49e1af1ea5b594", checked := Try.checked }
namespace Rows
def none {H : Type} : Left H := { results := [], args := [] }

/-- 'zzlaws_root_b1.FnNextLevelIsNextSlashOrEnd': WHATEVER THE INPUT: true; the input reads as it did. -/
def fnNextLevelIsNextSlashOrEndSpec : ChangeSpec := { name := "fnNextLevelIsNextSlashOrEnd", fn := fun _ => fun
  | [d1, d2] => { results := [.lit (.bool true)], args := [d1, d2] }
  | _ => none }
def fnNextLevelIsNextSlashOrEndRow : OpenClaim := { program := "qxb6605317a", sum := "cffe2d53a12f1e5344922e9cf4a3ccfcb94fd00f69fff4c94f49e1af1ea5b594", func := "example.com/holdfast/holdfast/zzlaws_root_b1.FnNextLevelIsNextSlashOrEnd", spec := "fnNextLevelIsNextSlashOrEnd", inPlace := ["internal/bytealg.IndexByteString"], apart := false }
def FnNextLevelIsNextSlashOrEndSaid : Prop := fnNextLevelIsNextSlashOrEndRow.holds Try.pinned (OpenSpec.ofChange fnNextLevelIsNextSlashOrEndSpec)

/-- ITS FALSE NEIGHBOUR: 'it returns false'. Refute it at one input. -/
def fnNextLevelIsNextSlashOrEndWrong : ChangeSpec := { name := "fnNextLevelIsNextSlashOrEnd", fn := fun _ => fun
  | [d1, d2] => { results := [.lit (.bool false)], args := [d1, d2] }
  | _ => none }
def FnNextLevelIsNextSlashOrEndWrongFalsely : Prop := fnNextLevelIsNextSlashOrEndRow.holds Try.pinned (OpenSpec.ofChange fnNextLevelIsNextSlashOrEndWrong)

/-- 'zzlaws_root_b1.FnLevelWalkNamesEachPrefixRootFirst': WHATEVER THE INPUT: true; the input reads as it did. -/
def fnLevelWalkNamesEachPrefixRootFirstSpec : ChangeSpec := { name := "fnLevelWalkNamesEachPrefixRootFirst", fn := fun _ => fun
  | [d1, d2, d3, d4, d5] => { results := [.lit (.bool true)], args := [d1, d2, d3, d4, d5] }
  | _ => none }
def fnLevelWalkNamesEachPrefixRootFirstRow : OpenClaim := { program := "qxb6605317a", sum := "cffe2d53a12f1e5344922e9cf4a3ccfcb94fd00f69fff4c94f49e1af1ea5b594", func := "example.com/holdfast/holdfast/zzlaws_root_b1.FnLevelWalkNamesEachPrefixRootFirst", spec := "fnLevelWalkNamesEachPrefixRootFirst", inPlace := ["internal/bytealg.IndexByteString"], apart := false }
def FnLevelWalkNamesEachPrefixRootFirstSaid : Prop := fnLevelWalkNamesEachPrefixRootFirstRow.holds Try.pinned (OpenSpec.ofChange fnLevelWalkNamesEachPrefixRootFirstSpec)

/-- ITS FALSE NEIGHBOUR: 'it returns false'. Refute it at one input. -/
def fnLevelWalkNamesEachPrefixRootFirstWrong : ChangeSpec := { name := "fnLevelWalkNamesEachPrefixRootFirst", fn := fun _ => fun
  | [d1, d2, d3, d4, d5] => { results := [.lit (.bool false)], args := [d1, d2, d3, d4, d5] }
  | _ => none }
def FnLevelWalkNamesEachPrefixRootFirstWrongFalsely : Prop := fnLevelWalkNamesEachPrefixRootFirstRow.holds Try.pinned (OpenSpec.ofChange fnLevelWalkNamesEachPrefixRootFirstWrong)

end Rows
end Go.Proofs.Qxb6605317a
