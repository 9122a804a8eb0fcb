/-
  No cell of these rows narrows 'for every input' (looked for: loops, veiled, ifaces, maps, wideKeys, modest, calm, conditions, laid).
  DERIVED. THE GIVEN ROWS OF THIS SEAT. 6 by the template 'for every input the law returns true; each argument reads behind the call as it read before'; 0 by the template 'total and deterministic' (their statements: Qxb6600001aModsTotals.lean).
  GIVEN WITH THE SEED: the statements are not yours to turn. If you find one false, say at which input.
  Laid BY PROGRAM, IN A SANDBOX (cutbox-rows.mjs): the forced cells as the released guide's own fill.sh prints them over the translation 51f63a0544faac14… (all of the seat's roots in one cut). By AI agents, Wed Nov 11 2026. No macro, syntax, notation, axiom, sorry.
-/
import Derived.Test.Qxb6600001aModsChecked
import GoSem.Claim
import GoSem.ClaimJoined
import GoSem.ClaimMapViews
import Derived.JoinedTies
import Derived.KernelRfl
namespace Go.Proofs.Qxb6600001aMods
/- THE CELL 'sum', in the pinned program and in every row, IS THE sha256 OF THE DUMP (.gsa) THAT Qxb6600001aModsProg.lean LOADS. Nothing in Lean hashes anything: it is a label: what it is worth is what the hold of that sum in a sandbox is worth. -/
noncomputable def Trym.pinned : Pinned := { name := "qxb6600001amods", sum := "51f63a0544faac140ba0caaaf285fe6985c72d7f2a4e5c3aa06d0a12dddbbc36", checked := Trym.checked }
namespace Rows
def none {H : Type} : Left H := { results := [], args := [] }

/-- 'zzlaws_snapshot_b1.FnCompareInWalkMatchesSlashFirstByteOrder': WHATEVER THE INPUT: true; the input reads as it did. -/
def fnCompareInWalkMatchesSlashFirstByteOrderSpec : ChangeSpec := { name := "fnCompareInWalkMatchesSlashFirstByteOrder", fn := fun _ => fun
  | [d1, d2] => { results := [.lit (.bool true)], args := [d1, d2] }
  | _ => none }
def fnCompareInWalkMatchesSlashFirstByteOrderRow : OpenClaim := { program := "qxb6600001amods", sum := "51f63a0544faac140ba0caaaf285fe6985c72d7f2a4e5c3aa06d0a12dddbbc36", func := "example.com/fallow/fallow/zzlaws_snapshot_b1.FnCompareInWalkMatchesSlashFirstByteOrder", spec := "fnCompareInWalkMatchesSlashFirstByteOrder", inPlace := ["internal/bytealg.IndexByteString", "internal/bytealg.IndexString", "internal/bytealg.abigen_runtime_cmpstring"], named := ["internal/bytealg.MaxLen"], make := .lifted ["publicsums"], apart := false }
def FnCompareInWalkMatchesSlashFirstByteOrderSaid : Prop := fnCompareInWalkMatchesSlashFirstByteOrderRow.holds Trym.pinned (OpenSpec.ofChange fnCompareInWalkMatchesSlashFirstByteOrderSpec)

/-- ITS FALSE NEIGHBOUR: 'it returns false'. Refute it at one input. -/
def fnCompareInWalkMatchesSlashFirstByteOrderWrong : ChangeSpec := { name := "fnCompareInWalkMatchesSlashFirstByteOrder", fn := fun _ => fun
  | [d1, d2] => { results := [.lit (.bool false)], args := [d1, d2] }
  | _ => none }
def FnCompareInWalkMatchesSlashFirstByteOrderWrongFalsely : Prop := fnCompareInWalkMatchesSlashFirstByteOrderRow.holds Trym.pinned (OpenSpec.ofChange fnCompareInWalkMatchesSlashFirstByteOrderWrong)

/-- 'zzlaws_snapshot_b1.FnCompareInWalkAntisymmetricAndZeroOnlyOnEqual': WHATEVER THE INPUT: true; the input reads as it did. -/
def fnCompareInWalkAntisymmetricAndZeroOnlyOnEqualSpec : ChangeSpec := { name := "fnCompareInWalkAntisymmetricAndZeroOnlyOnEqual", fn := fun _ => fun
  | [d1, d2] => { results := [.lit (.bool true)], args := [d1, d2] }
  | _ => none }
def fnCompareInWalkAntisymmetricAndZeroOnlyOnEqualRow : OpenClaim := { program := "qxb6600001amods", sum := "51f63a0544faac140ba0caaaf285fe6985c72d7f2a4e5c3aa06d0a12dddbbc36", func := "example.com/fallow/fallow/zzlaws_snapshot_b1.FnCompareInWalkAntisymmetricAndZeroOnlyOnEqual", spec := "fnCompareInWalkAntisymmetricAndZeroOnlyOnEqual", inPlace := ["internal/bytealg.IndexByteString", "internal/bytealg.IndexString", "internal/bytealg.abigen_runtime_cmpstring"], named := ["internal/bytealg.MaxLen"], make := .lifted ["publicsums"], apart := false }
def FnCompareInWalkAntisymmetricAndZeroOnlyOnEqualSaid : Prop := fnCompareInWalkAntisymmetricAndZeroOnlyOnEqualRow.holds Trym.pinned (OpenSpec.ofChange fnCompareInWalkAntisymmetricAndZeroOnlyOnEqualSpec)

/-- ITS FALSE NEIGHBOUR: 'it returns false'. Refute it at one input. -/
def fnCompareInWalkAntisymmetricAndZeroOnlyOnEqualWrong : ChangeSpec := { name := "fnCompareInWalkAntisymmetricAndZeroOnlyOnEqual", fn := fun _ => fun
  | [d1, d2] => { results := [.lit (.bool false)], args := [d1, d2] }
  | _ => none }
def FnCompareInWalkAntisymmetricAndZeroOnlyOnEqualWrongFalsely : Prop := fnCompareInWalkAntisymmetricAndZeroOnlyOnEqualRow.holds Trym.pinned (OpenSpec.ofChange fnCompareInWalkAntisymmetricAndZeroOnlyOnEqualWrong)

/-- 'zzlaws_snapshot_b1.FnCompareInWalkSubtreeStaysContiguous': WHATEVER THE INPUT: true; the input reads as it did. -/
def fnCompareInWalkSubtreeStaysContiguousSpec : ChangeSpec := { name := "fnCompareInWalkSubtreeStaysContiguous", fn := fun _ => fun
  | [d1, d2, d3] => { results := [.lit (.bool true)], args := [d1, d2, d3] }
  | _ => none }
def fnCompareInWalkSubtreeStaysContiguousRow : OpenClaim := { program := "qxb6600001amods", sum := "51f63a0544faac140ba0caaaf285fe6985c72d7f2a4e5c3aa06d0a12dddbbc36", func := "example.com/fallow/fallow/zzlaws_snapshot_b1.FnCompareInWalkSubtreeStaysContiguous", spec := "fnCompareInWalkSubtreeStaysContiguous", inPlace := ["internal/bytealg.IndexByteString", "internal/bytealg.IndexString", "internal/bytealg.abigen_runtime_cmpstring"], named := ["internal/bytealg.MaxLen"], make := .lifted ["publicsums"], apart := false }
def FnCompareInWalkSubtreeStaysContiguousSaid : Prop := fnCompareInWalkSubtreeStaysContiguousRow.holds Trym.pinned (OpenSpec.ofChange fnCompareInWalkSubtreeStaysContiguousSpec)

/-- ITS FALSE NEIGHBOUR: 'it returns false'. Refute it at one input. -/
def fnCompareInWalkSubtreeStaysContiguousWrong : ChangeSpec := { name := "fnCompareInWalkSubtreeStaysContiguous", fn := fun _ => fun
  | [d1, d2, d3] => { results := [.lit (.bool false)], args := [d1, d2, d3] }
  | _ => none }
def FnCompareInWalkSubtreeStaysContiguousWrongFalsely : Prop := fnCompareInWalkSubtreeStaysContiguousRow.holds Trym.pinned (OpenSpec.ofChange fnCompareInWalkSubtreeStaysContiguousWrong)

/-- 'zzlaws_snapshot_b1.FnVariableNameIsLongestIdentifierPrefix': WHATEVER THE INPUT: true; the input reads as it did. -/
def fnVariableNameIsLongestIdentifierPrefixSpec : ChangeSpec := { name := "fnVariableNameIsLongestIdentifierPrefix", fn := fun _ => fun
  | [d] => { results := [.lit (.bool true)], args := [d] }
  | _ => none }
def fnVariableNameIsLongestIdentifierPrefixRow : OpenClaim := { program := "qxb6600001amods", sum := "51f63a0544faac140ba0caaaf285fe6985c72d7f2a4e5c3aa06d0a12dddbbc36", func := "example.com/fallow/fallow/zzlaws_snapshot_b1.FnVariableNameIsLongestIdentifierPrefix", spec := "fnVariableNameIsLongestIdentifierPrefix", make := .lifted ["publicsums"], apart := false }
def FnVariableNameIsLongestIdentifierPrefixSaid : Prop := fnVariableNameIsLongestIdentifierPrefixRow.holds Trym.pinned (OpenSpec.ofChange fnVariableNameIsLongestIdentifierPrefixSpec)

/-- ITS FALSE NEIGHBOUR: 'it returns false'. Refute it at one input. -/
def fnVariableNameIsLongestIdentifierPrefixWrong : ChangeSpec := { name := "fnVariableNameIsLongestIdentifierPrefix", fn := fun _ => fun
  | [d] => { results := [.lit (.bool false)], args := [d] }
  | _ => none }
def FnVariableNameIsLongestIdentifierPrefixWrongFalsely : Prop := fnVariableNameIsLongestIdentifierPrefixRow.holds Trym.pinned (OpenSpec.ofChange fnVariableNameIsLongestIdentifierPrefixWrong)

/-- 'zzlaws_snapshot_b1.FnVariableNameIdempotent': WHATEVER THE INPUT: true; the input reads as it did. -/
def fnVariableNameIdempotentSpec : ChangeSpec := { name := "fnVariableNameIdempotent", fn := fun _ => fun
  | [d] => { results := [.lit (.bool true)], args := [d] }
  | _ => none }
def fnVariableNameIdempotentRow : OpenClaim := { program := "qxb6600001amods", sum := "51f63a0544faac140ba0caaaf285fe6985c72d7f2a4e5c3aa06d0a12dddbbc36", func := "example.com/fallow/fallow/zzlaws_snapshot_b1.FnVariableNameIdempotent", spec := "fnVariableNameIdempotent", make := .lifted ["publicsums"], apart := false }
def FnVariableNameIdempotentSaid : Prop := fnVariableNameIdempotentRow.holds Trym.pinned (OpenSpec.ofChange fnVariableNameIdempotentSpec)

/-- ITS FALSE NEIGHBOUR: 'it returns false'. Refute it at one input. -/
def fnVariableNameIdempotentWrong : ChangeSpec := { name := "fnVariableNameIdempotent", fn := fun _ => fun
  | [d] => { results := [.lit (.bool false)], args := [d] }
  | _ => none }
def FnVariableNameIdempotentWrongFalsely : Prop := fnVariableNameIdempotentRow.holds Trym.pinned (OpenSpec.ofChange fnVariableNameIdempotentWrong)

/-- 'zzlaws_snapshot_b1.FnVariableNameStableUnderExtension': WHATEVER THE INPUT: true; the input reads as it did. -/
def fnVariableNameStableUnderExtensionSpec : ChangeSpec := { name := "fnVariableNameStableUnderExtension", fn := fun _ => fun
  | [d1, d2] => { results := [.lit (.bool true)], args := [d1, d2] }
  | _ => none }
def fnVariableNameStableUnderExtensionRow : OpenClaim := { program := "qxb6600001amods", sum := "51f63a0544faac140ba0caaaf285fe6985c72d7f2a4e5c3aa06d0a12dddbbc36", func := "example.com/fallow/fallow/zzlaws_snapshot_b1.FnVariableNameStableUnderExtension", spec := "fnVariableNameStableUnderExtension", make := .lifted ["publicsums"], apart := false }
def FnVariableNameStableUnderExtensionSaid : Prop := fnVariableNameStableUnderExtensionRow.holds Trym.pinned (OpenSpec.ofChange fnVariableNameStableUnderExtensionSpec)

/-- ITS FALSE NEIGHBOUR: 'it returns false'. Refute it at one input. -/
def fnVariableNameStableUnderExtensionWrong : ChangeSpec := { name := "fnVariableNameStableUnderExtension", fn := fun _ => fun
  | [d1, d2] => { results := [.lit (.bool false)], args := [d1, d2] }
  | _ => none }
def FnVariableNameStableUnderExtensionWrongFalsely : Prop := fnVariableNameStableUnderExtensionRow.holds Trym.pinned (OpenSpec.ofChange fnVariableNameStableUnderExtensionWrong)

end Rows
end Go.Proofs.Qxb6600001aMods
