/-
  No cell of these rows narrows 'for every input' (looked for: loops, veiled, ifaces, maps, wideKeys, modest, calm, conditions, laid).
  DERIVED. THE GIVEN ROWS OF THIS SEAT. 2 by the template 'for every input the law returns true; each argument reads behind the call as it read before'; 0 by the template 'total and deterministic' (their statements: Qxb6600847aTotals.lean).
  GIVEN WITH THE SEED: the statements are not yours to turn. If you find one false, say at which input.
  Laid BY PROGRAM, IN A SANDBOX (cutbox-rows.mjs): the forced cells as the released guide's own fill.sh prints them over the translation e2556e43dddd0b73… (all of the seat's roots in one cut). By AI agents, Wed Nov 11 2026. No macro, syntax, notation, axiom, sorry.
-/
import Derived.Test.Qxb6600847aChecked
import GoSem.Claim
import GoSem.ClaimJoined
import GoSem.ClaimMapViews
import Derived.JoinedTies
import Derived.KernelRfl
namespace Go.Proofs.Qxb6600847a
/- THE CELL 'sum', in the pinned program and in every row, IS THE sha256 OF THE DUMP (.gsa) THAT Qxb6600847aProg.lean LOADS. Nothing in Lean hashes anything: it is a label: what it is worth is what the hold of that sum in a sandbox is worth. -/
noncomputable def Try.pinned : Pinned := { name := "qxb6600847a", sum := "e2556e43dddd0b73f989a39f7005cf524a852e8fcd521695a9f0f3a37c340647", checked := Try.checked }
namespace Rows
def none {H : Type} : Left H := { results := [], args := [] }

/-- 'zzlaws_api_b1.FnCountedMatchesTally': WHATEVER THE INPUT: true; the input reads as it did. -/
def fnCountedMatchesTallySpec : ChangeSpec := { name := "fnCountedMatchesTally", fn := fun _ => fun
  | [d] => { results := [.lit (.bool true)], args := [d] }
  | _ => none }
def fnCountedMatchesTallyRow : OpenClaim := { program := "qxb6600847a", sum := "e2556e43dddd0b73f989a39f7005cf524a852e8fcd521695a9f0f3a37c340647", func := "example.com/tenure/tenure/zzlaws_api_b1.FnCountedMatchesTally", spec := "fnCountedMatchesTally", apart := false }
def FnCountedMatchesTallySaid : Prop := fnCountedMatchesTallyRow.holds Try.pinned (OpenSpec.ofChange fnCountedMatchesTallySpec)

/-- ITS FALSE NEIGHBOUR: 'it returns false'. Refute it at one input. -/
def fnCountedMatchesTallyWrong : ChangeSpec := { name := "fnCountedMatchesTally", fn := fun _ => fun
  | [d] => { results := [.lit (.bool false)], args := [d] }
  | _ => none }
def FnCountedMatchesTallyWrongFalsely : Prop := fnCountedMatchesTallyRow.holds Try.pinned (OpenSpec.ofChange fnCountedMatchesTallyWrong)

/-- 'zzlaws_api_b1.FnCountedUpThenDownRestores': WHATEVER THE INPUT: true; the input reads as it did. -/
def fnCountedUpThenDownRestoresSpec : ChangeSpec := { name := "fnCountedUpThenDownRestores", fn := fun _ => fun
  | [d1, d2] => { results := [.lit (.bool true)], args := [d1, d2] }
  | _ => none }
def fnCountedUpThenDownRestoresRow : OpenClaim := { program := "qxb6600847a", sum := "e2556e43dddd0b73f989a39f7005cf524a852e8fcd521695a9f0f3a37c340647", func := "example.com/tenure/tenure/zzlaws_api_b1.FnCountedUpThenDownRestores", spec := "fnCountedUpThenDownRestores", apart := false }
def FnCountedUpThenDownRestoresSaid : Prop := fnCountedUpThenDownRestoresRow.holds Try.pinned (OpenSpec.ofChange fnCountedUpThenDownRestoresSpec)

/-- ITS FALSE NEIGHBOUR: 'it returns false'. Refute it at one input. -/
def fnCountedUpThenDownRestoresWrong : ChangeSpec := { name := "fnCountedUpThenDownRestores", fn := fun _ => fun
  | [d1, d2] => { results := [.lit (.bool false)], args := [d1, d2] }
  | _ => none }
def FnCountedUpThenDownRestoresWrongFalsely : Prop := fnCountedUpThenDownRestoresRow.holds Try.pinned (OpenSpec.ofChange fnCountedUpThenDownRestoresWrong)

end Rows
end Go.Proofs.Qxb6600847a
