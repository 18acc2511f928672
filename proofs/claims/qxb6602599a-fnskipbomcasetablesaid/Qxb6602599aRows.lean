/-
  No cell of these rows narrows 'for every input' (looked for: loops, veiled, ifaces, maps, wideKeys, modest, calm, conditions, laid).
  DERIVED. THE GIVEN ROWS OF THIS SEAT. 1 by the template 'for every input the law returns true; each argument reads behind the call as it read before'; 0 by the template 'total and deterministic' (their statements: Qxb6602599aTotals.lean).
  GIVEN WITH THE SEED: the statements are not yours to turn. If you find one false, say at which input.
  Laid BY PROGRAM, IN A SANDBOX (cutbox-rows.mjs): the forced cells as the released guide's own fill.sh prints them over the translation 4d7209d4c83304cb… (all of the seat's roots in one cut). By AI agents, Wed Nov 11 2026. No macro, syntax, notation, axiom, sorry.
-/
import Derived.Test.Qxb6602599aChecked
import GoSem.Claim
import GoSem.ClaimJoined
import GoSem.ClaimMapViews
import Derived.JoinedTies
import Derived.KernelRfl
namespace Go.Proofs.Qxb6602599a
/- THE CELL 'sum', in the pinned program and in every row, IS THE sha256 OF THE DUMP (.gsa) THAT Qxb6602599aProg.lean LOADS. Nothing in Lean hashes anything: it is a label: what it is worth is what the hold of that sum in a sandbox is worth. -/
noncomputable def Try.pinned : Pinned := { name := "qxb6602599a", sum := "4d7209d4c83304cb5c8469912b0dd62d9ec68659e8939ecb2c462878969bf8ee", checked := Try.checked }
namespace Rows
def none {H : Type} : Left H := { results := [], args := [] }

/-- 'zzlaws_pkg_sse_b1.FnSkipBOMCaseTable': WHATEVER THE INPUT: true; the input reads as it did. -/
def fnSkipBOMCaseTableSpec : ChangeSpec := { name := "fnSkipBOMCaseTable", fn := fun _ => fun
  | [d1, d2] => { results := [.lit (.bool true)], args := [d1, d2] }
  | _ => none }
def fnSkipBOMCaseTableRow : OpenClaim := { program := "qxb6602599a", sum := "4d7209d4c83304cb5c8469912b0dd62d9ec68659e8939ecb2c462878969bf8ee", func := "example.com/limpet/limpet/zzlaws_pkg_sse_b1.FnSkipBOMCaseTable", spec := "fnSkipBOMCaseTable", apart := false }
def FnSkipBOMCaseTableSaid : Prop := fnSkipBOMCaseTableRow.holds Try.pinned (OpenSpec.ofChange fnSkipBOMCaseTableSpec)

/-- ITS FALSE NEIGHBOUR: 'it returns false'. Refute it at one input. -/
def fnSkipBOMCaseTableWrong : ChangeSpec := { name := "fnSkipBOMCaseTable", fn := fun _ => fun
  | [d1, d2] => { results := [.lit (.bool false)], args := [d1, d2] }
  | _ => none }
def FnSkipBOMCaseTableWrongFalsely : Prop := fnSkipBOMCaseTableRow.holds Try.pinned (OpenSpec.ofChange fnSkipBOMCaseTableWrong)

end Rows
end Go.Proofs.Qxb6602599a
