/-
  No cell of these rows narrows 'for every input' (looked for: loops, veiled, ifaces, maps, wideKeys, modest, calm, conditions, laid).
  DERIVED. THE GIVEN ROWS OF THIS SEAT. 1 by the template 'for every input the law returns true; each argument reads behind the call as it read before'; 0 by the template 'total and deterministic' (their statements: Qxb6609559aModsTotals.lean).
  GIVEN WITH THE SEED: the statements are not yours to turn. If you find one false, say at which input.
  Laid BY PROGRAM, IN A SANDBOX (cutbox-rows.mjs): the forced cells as the released guide's own fill.sh prints them over the translation 0c379c0cf3028ad0… (all of the seat's roots in one cut). By AI agents, Wed Nov 11 2026. No macro, syntax, notation, axiom, sorry.
-/
import Derived.Test.Qxb6609559aModsChecked
import GoSem.Claim
import GoSem.ClaimJoined
import GoSem.ClaimMapViews
import Derived.JoinedTies
import Derived.KernelRfl
namespace Go.Proofs.Qxb6609559aMods
/- THE CELL 'sum', in the pinned program and in every row, IS THE sha256 OF THE DUMP (.gsa) THAT Qxb6609559aModsProg.lean LOADS. Nothing in Lean hashes anything: it is a label: what it is worth is what the hold of that sum in a sandbox is worth. -/
noncomputable def Trym.pinned : Pinned := { name := "qxb6609559amods", sum := "0c379c0cf3028ad098d16e4738018b24c061e3985aaf7c2e013ede21be57f5b4", checked := Trym.checked }
namespace Rows
def none {H : Type} : Left H := { results := [], args := [] }

/-- 'zzlaws_root_b1.FnNotNameCharIsOutsideTheNameTable': WHATEVER THE INPUT: true; the input reads as it did. -/
def fnNotNameCharIsOutsideTheNameTableSpec : ChangeSpec := { name := "fnNotNameCharIsOutsideTheNameTable", fn := fun _ => fun
  | [d] => { results := [.lit (.bool true)], args := [d] }
  | _ => none }
def fnNotNameCharIsOutsideTheNameTableRow : OpenClaim := { program := "qxb6609559amods", sum := "0c379c0cf3028ad098d16e4738018b24c061e3985aaf7c2e013ede21be57f5b4", func := "example.com/drossel/drossel/zzlaws_root_b1.FnNotNameCharIsOutsideTheNameTable", spec := "fnNotNameCharIsOutsideTheNameTable", make := .lifted ["publicsums"], apart := false }
def FnNotNameCharIsOutsideTheNameTableSaid : Prop := fnNotNameCharIsOutsideTheNameTableRow.holds Trym.pinned (OpenSpec.ofChange fnNotNameCharIsOutsideTheNameTableSpec)

/-- ITS FALSE NEIGHBOUR: 'it returns false'. Refute it at one input. -/
def fnNotNameCharIsOutsideTheNameTableWrong : ChangeSpec := { name := "fnNotNameCharIsOutsideTheNameTable", fn := fun _ => fun
  | [d] => { results := [.lit (.bool false)], args := [d] }
  | _ => none }
def FnNotNameCharIsOutsideTheNameTableWrongFalsely : Prop := fnNotNameCharIsOutsideTheNameTableRow.holds Trym.pinned (OpenSpec.ofChange fnNotNameCharIsOutsideTheNameTableWrong)

end Rows
end Go.Proofs.Qxb6609559aMods
