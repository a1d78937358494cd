/-
  No cell of these rows narrows 'for every input' (looked for: loops, veiled, ifaces, maps, wideKeys, modest, calm, conditions, laid).
  DERIVED. THE GIVEN ROWS OF THIS SEAT. 6 by the template 'for every input the law returns true; each argument reads behind the call as it read before'; 0 by the template 'total and deterministic' (their statements: Qxb6601301aTotals.lean).
  GIVEN WITH THE SEED: the statements are not yours to turn. If you find one false, say at which input.
  Laid BY PROGRAM, IN A SANDBOX (cutbox-rows.mjs): the forced cells as the released guide's own fill.sh prints them over the translation 6a886eb65bd3d429… (all of the seat's roots in one cut). By AI agents, Wed Nov 11 2026. No macro, syntax, notation, axiom, sorry.
-/
import Derived.Test.Qxb6601301aChecked
import GoSem.Claim
import GoSem.ClaimJoined
import GoSem.ClaimMapViews
import Derived.JoinedTies
import Derived.KernelRfl
namespace Go.Proofs.Qxb6601301a
/- THE CELL 'sum', in the pinned program and in every row, IS THE sha256 OF THE DUMP (.gsa) THAT Qxb6601301aProg.lean LOADS. Nothing in Lean hashes anything: it is a label: what it is worth is what the hold of that sum in a sandbox is worth. -/
noncomputable def Try.pinned : Pinned := { name := "qxb6601301a", sum := "6a886eb65bd3d429206693f05a0fac8708492f043bbc5072f5a24b716e4bda85", checked := Try.checked }
namespace Rows
def none {H : Type} : Left H := { results := [], args := [] }

/-- 'zzlaws_pkg_postgres_b1.FnSkipSpaceMatchesModel': WHATEVER THE INPUT: true; the input reads as it did. -/
def fnSkipSpaceMatchesModelSpec : ChangeSpec := { name := "fnSkipSpaceMatchesModel", fn := fun _ => fun
  | [d1, d2] => { results := [.lit (.bool true)], args := [d1, d2] }
  | _ => none }
def fnSkipSpaceMatchesModelRow : OpenClaim := { program := "qxb6601301a", sum := "6a886eb65bd3d429206693f05a0fac8708492f043bbc5072f5a24b716e4bda85", func := "example.com/officiant/officiant/zzlaws_pkg_postgres_b1.FnSkipSpaceMatchesModel", spec := "fnSkipSpaceMatchesModel", inPlace := ["internal/bytealg.IndexByteString", "internal/bytealg.IndexString"], named := ["internal/bytealg.MaxLen"], apart := false }
def FnSkipSpaceMatchesModelSaid : Prop := fnSkipSpaceMatchesModelRow.holds Try.pinned (OpenSpec.ofChange fnSkipSpaceMatchesModelSpec)

/-- ITS FALSE NEIGHBOUR: 'it returns false'. Refute it at one input. -/
def fnSkipSpaceMatchesModelWrong : ChangeSpec := { name := "fnSkipSpaceMatchesModel", fn := fun _ => fun
  | [d1, d2] => { results := [.lit (.bool false)], args := [d1, d2] }
  | _ => none }
def FnSkipSpaceMatchesModelWrongFalsely : Prop := fnSkipSpaceMatchesModelRow.holds Try.pinned (OpenSpec.ofChange fnSkipSpaceMatchesModelWrong)

/-- 'zzlaws_pkg_postgres_b1.FnSkipSpaceIsIdempotentAndBounded': WHATEVER THE INPUT: true; the input reads as it did. -/
def fnSkipSpaceIsIdempotentAndBoundedSpec : ChangeSpec := { name := "fnSkipSpaceIsIdempotentAndBounded", fn := fun _ => fun
  | [d1, d2] => { results := [.lit (.bool true)], args := [d1, d2] }
  | _ => none }
def fnSkipSpaceIsIdempotentAndBoundedRow : OpenClaim := { program := "qxb6601301a", sum := "6a886eb65bd3d429206693f05a0fac8708492f043bbc5072f5a24b716e4bda85", func := "example.com/officiant/officiant/zzlaws_pkg_postgres_b1.FnSkipSpaceIsIdempotentAndBounded", spec := "fnSkipSpaceIsIdempotentAndBounded", inPlace := ["internal/bytealg.IndexByteString", "internal/bytealg.IndexString"], named := ["internal/bytealg.MaxLen"], apart := false }
def FnSkipSpaceIsIdempotentAndBoundedSaid : Prop := fnSkipSpaceIsIdempotentAndBoundedRow.holds Try.pinned (OpenSpec.ofChange fnSkipSpaceIsIdempotentAndBoundedSpec)

/-- ITS FALSE NEIGHBOUR: 'it returns false'. Refute it at one input. -/
def fnSkipSpaceIsIdempotentAndBoundedWrong : ChangeSpec := { name := "fnSkipSpaceIsIdempotentAndBounded", fn := fun _ => fun
  | [d1, d2] => { results := [.lit (.bool false)], args := [d1, d2] }
  | _ => none }
def FnSkipSpaceIsIdempotentAndBoundedWrongFalsely : Prop := fnSkipSpaceIsIdempotentAndBoundedRow.holds Try.pinned (OpenSpec.ofChange fnSkipSpaceIsIdempotentAndBoundedWrong)

/-- 'zzlaws_pkg_postgres_b1.FnSkipSpaceLooksOnlyAhead': WHATEVER THE INPUT: true; the input reads as it did. -/
def fnSkipSpaceLooksOnlyAheadSpec : ChangeSpec := { name := "fnSkipSpaceLooksOnlyAhead", fn := fun _ => fun
  | [d1, d2] => { results := [.lit (.bool true)], args := [d1, d2] }
  | _ => none }
def fnSkipSpaceLooksOnlyAheadRow : OpenClaim := { program := "qxb6601301a", sum := "6a886eb65bd3d429206693f05a0fac8708492f043bbc5072f5a24b716e4bda85", func := "example.com/officiant/officiant/zzlaws_pkg_postgres_b1.FnSkipSpaceLooksOnlyAhead", spec := "fnSkipSpaceLooksOnlyAhead", inPlace := ["internal/bytealg.IndexByteString", "internal/bytealg.IndexString"], named := ["internal/bytealg.MaxLen"], apart := false }
def FnSkipSpaceLooksOnlyAheadSaid : Prop := fnSkipSpaceLooksOnlyAheadRow.holds Try.pinned (OpenSpec.ofChange fnSkipSpaceLooksOnlyAheadSpec)

/-- ITS FALSE NEIGHBOUR: 'it returns false'. Refute it at one input. -/
def fnSkipSpaceLooksOnlyAheadWrong : ChangeSpec := { name := "fnSkipSpaceLooksOnlyAhead", fn := fun _ => fun
  | [d1, d2] => { results := [.lit (.bool false)], args := [d1, d2] }
  | _ => none }
def FnSkipSpaceLooksOnlyAheadWrongFalsely : Prop := fnSkipSpaceLooksOnlyAheadRow.holds Try.pinned (OpenSpec.ofChange fnSkipSpaceLooksOnlyAheadWrong)

/-- 'zzlaws_pkg_postgres_b1.FnTokenMatchesModel': WHATEVER THE INPUT: true; the input reads as it did. -/
def fnTokenMatchesModelSpec : ChangeSpec := { name := "fnTokenMatchesModel", fn := fun _ => fun
  | [d1, d2, d3] => { results := [.lit (.bool true)], args := [d1, d2, d3] }
  | _ => none }
def fnTokenMatchesModelRow : OpenClaim := { program := "qxb6601301a", sum := "6a886eb65bd3d429206693f05a0fac8708492f043bbc5072f5a24b716e4bda85", func := "example.com/officiant/officiant/zzlaws_pkg_postgres_b1.FnTokenMatchesModel", spec := "fnTokenMatchesModel", inPlace := ["internal/bytealg.IndexByteString", "internal/bytealg.IndexString"], named := ["internal/bytealg.MaxLen"], apart := false }
def FnTokenMatchesModelSaid : Prop := fnTokenMatchesModelRow.holds Try.pinned (OpenSpec.ofChange fnTokenMatchesModelSpec)

/-- ITS FALSE NEIGHBOUR: 'it returns false'. Refute it at one input. -/
def fnTokenMatchesModelWrong : ChangeSpec := { name := "fnTokenMatchesModel", fn := fun _ => fun
  | [d1, d2, d3] => { results := [.lit (.bool false)], args := [d1, d2, d3] }
  | _ => none }
def FnTokenMatchesModelWrongFalsely : Prop := fnTokenMatchesModelRow.holds Try.pinned (OpenSpec.ofChange fnTokenMatchesModelWrong)

/-- 'zzlaws_pkg_postgres_b1.FnTokenAdvancesWithinText': WHATEVER THE INPUT: true; the input reads as it did. -/
def fnTokenAdvancesWithinTextSpec : ChangeSpec := { name := "fnTokenAdvancesWithinText", fn := fun _ => fun
  | [d1, d2, d3] => { results := [.lit (.bool true)], args := [d1, d2, d3] }
  | _ => none }
def fnTokenAdvancesWithinTextRow : OpenClaim := { program := "qxb6601301a", sum := "6a886eb65bd3d429206693f05a0fac8708492f043bbc5072f5a24b716e4bda85", func := "example.com/officiant/officiant/zzlaws_pkg_postgres_b1.FnTokenAdvancesWithinText", spec := "fnTokenAdvancesWithinText", inPlace := ["internal/bytealg.IndexByteString", "internal/bytealg.IndexString"], named := ["internal/bytealg.MaxLen"], apart := false }
def FnTokenAdvancesWithinTextSaid : Prop := fnTokenAdvancesWithinTextRow.holds Try.pinned (OpenSpec.ofChange fnTokenAdvancesWithinTextSpec)

/-- ITS FALSE NEIGHBOUR: 'it returns false'. Refute it at one input. -/
def fnTokenAdvancesWithinTextWrong : ChangeSpec := { name := "fnTokenAdvancesWithinText", fn := fun _ => fun
  | [d1, d2, d3] => { results := [.lit (.bool false)], args := [d1, d2, d3] }
  | _ => none }
def FnTokenAdvancesWithinTextWrongFalsely : Prop := fnTokenAdvancesWithinTextRow.holds Try.pinned (OpenSpec.ofChange fnTokenAdvancesWithinTextWrong)

/-- 'zzlaws_pkg_postgres_b1.FnTokenLooksOnlyAhead': WHATEVER THE INPUT: true; the input reads as it did. -/
def fnTokenLooksOnlyAheadSpec : ChangeSpec := { name := "fnTokenLooksOnlyAhead", fn := fun _ => fun
  | [d1, d2, d3] => { results := [.lit (.bool true)], args := [d1, d2, d3] }
  | _ => none }
def fnTokenLooksOnlyAheadRow : OpenClaim := { program := "qxb6601301a", sum := "6a886eb65bd3d429206693f05a0fac8708492f043bbc5072f5a24b716e4bda85", func := "example.com/officiant/officiant/zzlaws_pkg_postgres_b1.FnTokenLooksOnlyAhead", spec := "fnTokenLooksOnlyAhead", inPlace := ["internal/bytealg.IndexByteString", "internal/bytealg.IndexString"], named := ["internal/bytealg.MaxLen"], apart := false }
def FnTokenLooksOnlyAheadSaid : Prop := fnTokenLooksOnlyAheadRow.holds Try.pinned (OpenSpec.ofChange fnTokenLooksOnlyAheadSpec)

/-- ITS FALSE NEIGHBOUR: 'it returns false'. Refute it at one input. -/
def fnTokenLooksOnlyAheadWrong : ChangeSpec := { name := "fnTokenLooksOnlyAhead", fn := fun _ => fun
  | [d1, d2, d3] => { results := [.lit (.bool false)], args := [d1, d2, d3] }
  | _ => none }
def FnTokenLooksOnlyAheadWrongFalsely : Prop := fnTokenLooksOnlyAheadRow.holds Try.pinned (OpenSpec.ofChange fnTokenLooksOnlyAheadWrong)

end Rows
end Go.Proofs.Qxb6601301a
