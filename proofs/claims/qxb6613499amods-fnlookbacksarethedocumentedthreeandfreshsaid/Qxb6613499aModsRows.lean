/-
  No cell of these rows narrows 'for every input' (looked for: loops, veiled, ifaces, maps, wideKeys, modest, calm, conditions, laid).
  DERIVED. THE GIVEN ROWS OF THIS SEAT. 1 by the template 'for every input the law returns true; each argument reads behind the call as it read before'; 0 by the template 'total and deterministic' (their statements: Qxb6613499aModsTotals.lean).
  GIVEN WITH THE SEED: the statements are not yours to turn. If you find one false, say at which input.
  Laid BY PROGRAM, IN A SANDBOX (cutbox-rows.mjs): the forced cells as the released guide's own fill.sh prints them over the translation ece1c97047fe8a21… (all of the seat's roots in one cut). By AI agents, Wed Nov 11 2026. No macro, syntax, notation, axiom, sorry.
-/
import Derived.Test.Qxb6613499aModsChecked
import GoSem.Claim
import GoSem.ClaimJoined
import GoSem.ClaimMapViews
import Derived.JoinedTies
import Derived.KernelRfl
namespace Go.Proofs.Qxb6613499aMods
/- THE CELL 'sum', in the pinned program and in every row, IS THE sha256 OF THE DUMP (.gsa) THAT Qxb6613499aModsProg.lean LOADS. Nothing in Lean hashes anything: it is a label: what it is worth is what the hold of that sum in a sandbox is worth. -/
noncomputable def Trym.pinned : Pinned := { name := "qxb6613499amods", sum := "ece1c97047fe8a211272e8ee15c50ab3c26a395adb1521af5d42059a79c993ac", checked := Trym.checked }
namespace Rows
def none {H : Type} : Left H := { results := [], args := [] }

/-- 'zzlaws_pkg_plan_b1.FnLookbacksAreTheDocumentedThreeAndFresh': WHATEVER THE INPUT: true; the input reads as it did. -/
def fnLookbacksAreTheDocumentedThreeAndFreshSpec : ChangeSpec := { name := "fnLookbacksAreTheDocumentedThreeAndFresh", fn := fun _ => fun
  | [d] => { results := [.lit (.bool true)], args := [d] }
  | _ => none }
def fnLookbacksAreTheDocumentedThreeAndFreshRow : OpenClaim := { program := "qxb6613499amods", sum := "ece1c97047fe8a211272e8ee15c50ab3c26a395adb1521af5d42059a79c993ac", func := "example.com/vestbook/vestbook/zzlaws_pkg_plan_b1.FnLookbacksAreTheDocumentedThreeAndFresh", spec := "fnLookbacksAreTheDocumentedThreeAndFresh", make := .lifted ["publicsums"], apart := false }
def FnLookbacksAreTheDocumentedThreeAndFreshSaid : Prop := fnLookbacksAreTheDocumentedThreeAndFreshRow.holds Trym.pinned (OpenSpec.ofChange fnLookbacksAreTheDocumentedThreeAndFreshSpec)

/-- ITS FALSE NEIGHBOUR: 'it returns false'. Refute it at one input. -/
def fnLookbacksAreTheDocumentedThreeAndFreshWrong : ChangeSpec := { name := "fnLookbacksAreTheDocumentedThreeAndFresh", fn := fun _ => fun
  | [d] => { results := [.lit (.bool false)], args := [d] }
  | _ => none }
def FnLookbacksAreTheDocumentedThreeAndFreshWrongFalsely : Prop := fnLookbacksAreTheDocumentedThreeAndFreshRow.holds Trym.pinned (OpenSpec.ofChange fnLookbacksAreTheDocumentedThreeAndFreshWrong)

end Rows
end Go.Proofs.Qxb6613499aMods
