/-
  No cell of these rows narrows 'for every input' (looked for: loops, veiled, ifaces, maps, wideKeys, modest, calm, conditions, laid).
  DERIVED. THE GIVEN ROWS OF THIS SEAT. 1 by the template 'for every input the law returns true; each argument reads behind the call as it read before'; 0 by the template 'total and deterministic' (their statements: Qxb6602610aTotals.lean).
  GIVEN WITH THE SEED: the statements are not yours to turn. If you find one false, say at which input.
  Laid BY PROGRAM, IN A SANDBOX (cutbox-rows.mjs): the forced cells as the released guide's own fill.sh prints them over the translation db5b71a7ff10abd3… (all of the seat's roots in one cut). By AI agents, Wed Nov 11 2026. No macro, syntax, notation, axiom, sorry.
-/
import Derived.Test.Qxb6602610aChecked
import GoSem.Claim
import GoSem.ClaimJoined
import GoSem.ClaimMapViews
import Derived.JoinedTies
import Derived.KernelRfl
namespace Go.Proofs.Qxb6602610a
/- THE CELL 'sum', in the pinned program and in every row, IS THE sha256 OF THE DUMP (.gsa) THAT Qxb6602610aProg.lean LOADS. Nothing in Lean hashes anything: it is a label: what it is worth is what the hold of that sum in a sandbox is worth. -/
noncomputable def Try.pinned : Pinned := { name := "qxb6602610a", sum := "db5b71a7ff10abd36d8490714dc0f16c5b66dfd635b5343745fcc012a1a90b9d", checked := Try.checked }
namespace Rows
def none {H : Type} : Left H := { results := [], args := [] }

/-- 'zzlaws_pkg_semver_b1.FnHyphenMembership': WHATEVER THE INPUT: true; the input reads as it did. -/
def fnHyphenMembershipSpec : ChangeSpec := { name := "fnHyphenMembership", fn := fun _ => fun
  | [d1, d2, d3] => { results := [.lit (.bool true)], args := [d1, d2, d3] }
  | _ => none }
def fnHyphenMembershipRow : OpenClaim := { program := "qxb6602610a", sum := "db5b71a7ff10abd36d8490714dc0f16c5b66dfd635b5343745fcc012a1a90b9d", func := "example.com/ormeggio/ormeggio/zzlaws_pkg_semver_b1.FnHyphenMembership", spec := "fnHyphenMembership", apart := false }
def FnHyphenMembershipSaid : Prop := fnHyphenMembershipRow.holds Try.pinned (OpenSpec.ofChange fnHyphenMembershipSpec)

/-- ITS FALSE NEIGHBOUR: 'it returns false'. Refute it at one input. -/
def fnHyphenMembershipWrong : ChangeSpec := { name := "fnHyphenMembership", fn := fun _ => fun
  | [d1, d2, d3] => { results := [.lit (.bool false)], args := [d1, d2, d3] }
  | _ => none }
def FnHyphenMembershipWrongFalsely : Prop := fnHyphenMembershipRow.holds Try.pinned (OpenSpec.ofChange fnHyphenMembershipWrong)

end Rows
end Go.Proofs.Qxb6602610a
