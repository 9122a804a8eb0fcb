/-
  No cell of these rows narrows 'for every input' (looked for: loops, veiled, ifaces, maps, wideKeys, modest, calm, conditions, laid).
  DERIVED. THE GIVEN ROWS OF THIS SEAT. 3 by the template 'for every input the law returns true; each argument reads behind the call as it read before'; 0 by the template 'total and deterministic' (their statements: Qxb6614184aModsTotals.lean).
  GIVEN WITH THE SEED: the statements are not yours to turn. If you find one false, say at which input.
  Laid BY PROGRAM, IN A SANDBOX (cutbox-rows.mjs): the forced cells as the released guide's own fill.sh prints them over the translation ac0beeb34806973f… (all of the seat's roots in one cut). By AI agents, Wed Nov 11 2026. No macro, syntax, notation, axiom, sorry.
-/
import Derived.Test.Qxb6614184aModsChecked
import GoSem.Claim
import GoSem.ClaimJoined
import GoSem.ClaimMapViews
import Derived.JoinedTies
import Derived.KernelRfl
namespace Go.Proofs.Qxb6614184aMods
/- THE CELL 'sum', in the pinned program and in every row, IS THE sha256 OF THE DUMP (.gsa) THAT Qxb6614184aModsProg.lean LOADS. Nothing in Lean hashes anything: it is a label: what it is worth is what the hold of that sum in a sandbox is worth. -/
noncomputable def Trym.pinned : Pinned := { name := "qxb6614184amods", sum := "ac0beeb34806973f4178d74caad73afefced8fbc594a61f286e8f725c2e69bd5", checked := Trym.checked }
namespace Rows
def none {H : Type} : Left H := { results := [], args := [] }

/-- 'zzlaws_internal_indexserver_b1.FnWordListKeptWholeAgreesWithAnywhere': WHATEVER THE INPUT: true; the input reads as it did. -/
def fnWordListKeptWholeAgreesWithAnywhereSpec : ChangeSpec := { name := "fnWordListKeptWholeAgreesWithAnywhere", fn := fun _ => fun
  | [d1, d2, d3, d4, d5, d6, d7, d8, d9, d10, d11] => { results := [.lit (.bool true)], args := [d1, d2, d3, d4, d5, d6, d7, d8, d9, d10, d11] }
  | _ => none }
def fnWordListKeptWholeAgreesWithAnywhereRow : OpenClaim := { program := "qxb6614184amods", sum := "ac0beeb34806973f4178d74caad73afefced8fbc594a61f286e8f725c2e69bd5", func := "example.com/wayfinder/wayfinder/zzlaws_internal_indexserver_b1.FnWordListKeptWholeAgreesWithAnywhere", spec := "fnWordListKeptWholeAgreesWithAnywhere", make := .lifted ["publicsums"], apart := false }
def FnWordListKeptWholeAgreesWithAnywhereSaid : Prop := fnWordListKeptWholeAgreesWithAnywhereRow.holds Trym.pinned (OpenSpec.ofChange fnWordListKeptWholeAgreesWithAnywhereSpec)

/-- ITS FALSE NEIGHBOUR: 'it returns false'. Refute it at one input. -/
def fnWordListKeptWholeAgreesWithAnywhereWrong : ChangeSpec := { name := "fnWordListKeptWholeAgreesWithAnywhere", fn := fun _ => fun
  | [d1, d2, d3, d4, d5, d6, d7, d8, d9, d10, d11] => { results := [.lit (.bool false)], args := [d1, d2, d3, d4, d5, d6, d7, d8, d9, d10, d11] }
  | _ => none }
def FnWordListKeptWholeAgreesWithAnywhereWrongFalsely : Prop := fnWordListKeptWholeAgreesWithAnywhereRow.holds Trym.pinned (OpenSpec.ofChange fnWordListKeptWholeAgreesWithAnywhereWrong)

/-- 'zzlaws_internal_indexserver_b1.FnWordListWithAnEverySetIsKeptWhole': WHATEVER THE INPUT: true; the input reads as it did. -/
def fnWordListWithAnEverySetIsKeptWholeSpec : ChangeSpec := { name := "fnWordListWithAnEverySetIsKeptWhole", fn := fun _ => fun
  | [d1, d2, d3, d4, d5, d6, d7, d8, d9, d10] => { results := [.lit (.bool true)], args := [d1, d2, d3, d4, d5, d6, d7, d8, d9, d10] }
  | _ => none }
def fnWordListWithAnEverySetIsKeptWholeRow : OpenClaim := { program := "qxb6614184amods", sum := "ac0beeb34806973f4178d74caad73afefced8fbc594a61f286e8f725c2e69bd5", func := "example.com/wayfinder/wayfinder/zzlaws_internal_indexserver_b1.FnWordListWithAnEverySetIsKeptWhole", spec := "fnWordListWithAnEverySetIsKeptWhole", make := .lifted ["publicsums"], apart := false }
def FnWordListWithAnEverySetIsKeptWholeSaid : Prop := fnWordListWithAnEverySetIsKeptWholeRow.holds Trym.pinned (OpenSpec.ofChange fnWordListWithAnEverySetIsKeptWholeSpec)

/-- ITS FALSE NEIGHBOUR: 'it returns false'. Refute it at one input. -/
def fnWordListWithAnEverySetIsKeptWholeWrong : ChangeSpec := { name := "fnWordListWithAnEverySetIsKeptWhole", fn := fun _ => fun
  | [d1, d2, d3, d4, d5, d6, d7, d8, d9, d10] => { results := [.lit (.bool false)], args := [d1, d2, d3, d4, d5, d6, d7, d8, d9, d10] }
  | _ => none }
def FnWordListWithAnEverySetIsKeptWholeWrongFalsely : Prop := fnWordListWithAnEverySetIsKeptWholeRow.holds Trym.pinned (OpenSpec.ofChange fnWordListWithAnEverySetIsKeptWholeWrong)

/-- 'zzlaws_internal_indexserver_b1.FnWordListAnywhereGivesTheSameIdsOnceEveryIsKept': WHATEVER THE INPUT: true; the input reads as it did. -/
def fnWordListAnywhereGivesTheSameIdsOnceEveryIsKeptSpec : ChangeSpec := { name := "fnWordListAnywhereGivesTheSameIdsOnceEveryIsKept", fn := fun _ => fun
  | [d1, d2, d3, d4, d5, d6, d7, d8] => { results := [.lit (.bool true)], args := [d1, d2, d3, d4, d5, d6, d7, d8] }
  | _ => none }
def fnWordListAnywhereGivesTheSameIdsOnceEveryIsKeptRow : OpenClaim := { program := "qxb6614184amods", sum := "ac0beeb34806973f4178d74caad73afefced8fbc594a61f286e8f725c2e69bd5", func := "example.com/wayfinder/wayfinder/zzlaws_internal_indexserver_b1.FnWordListAnywhereGivesTheSameIdsOnceEveryIsKept", spec := "fnWordListAnywhereGivesTheSameIdsOnceEveryIsKept", make := .lifted ["publicsums"], apart := false }
def FnWordListAnywhereGivesTheSameIdsOnceEveryIsKeptSaid : Prop := fnWordListAnywhereGivesTheSameIdsOnceEveryIsKeptRow.holds Trym.pinned (OpenSpec.ofChange fnWordListAnywhereGivesTheSameIdsOnceEveryIsKeptSpec)

/-- ITS FALSE NEIGHBOUR: 'it returns false'. Refute it at one input. -/
def fnWordListAnywhereGivesTheSameIdsOnceEveryIsKeptWrong : ChangeSpec := { name := "fnWordListAnywhereGivesTheSameIdsOnceEveryIsKept", fn := fun _ => fun
  | [d1, d2, d3, d4, d5, d6, d7, d8] => { results := [.lit (.bool false)], args := [d1, d2, d3, d4, d5, d6, d7, d8] }
  | _ => none }
def FnWordListAnywhereGivesTheSameIdsOnceEveryIsKeptWrongFalsely : Prop := fnWordListAnywhereGivesTheSameIdsOnceEveryIsKeptRow.holds Trym.pinned (OpenSpec.ofChange fnWordListAnywhereGivesTheSameIdsOnceEveryIsKeptWrong)

end Rows
end Go.Proofs.Qxb6614184aMods
