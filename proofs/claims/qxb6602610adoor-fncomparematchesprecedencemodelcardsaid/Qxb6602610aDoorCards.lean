/-
  DERIVED. GIVEN WITH THE SEED: THE CARDS: each row of Qxb6602610aDoorRows.lean that lists a variable, with what it lists TIED to the program's text (the seventh form; the later family's looks); each row that meets fmt, with fmt's text TOLD by the authors' own Lean function (tested against real Go, not proved from fmt's source: count such statements apart). THE CARD IS WHAT COUNTS. Prove the row's statement (the work); the ties are given (Qxb6602610aDoorTie.lean); close each card by the builder's one call (the guide's Derived/Test/ToyasCard.lean, 'card_holds'). Laid BY PROGRAM, IN A SANDBOX (cutbox-door.mjs). By AI agents, Wed Nov 11 2026. No macro, syntax, notation, axiom, sorry.
-/
import Derived.Test.Qxb6602610aDoorRows
import GoSem.ClaimSeven
namespace Go.Proofs.Qxb6602610aDoor
namespace Rows

/-- THE TIED CARD OF 'zzlaws_pkg_semver_b1.FnCompareMatchesPrecedenceModel'. -/
def fnCompareMatchesPrecedenceModelCard : Claim7 := { stood := { row := fnCompareMatchesPrecedenceModelRow, standIns := [], harness := (true, "4757b285d4873cd46ed5e79e23da4c2bafcc4010020c2c94801ac5185a802026"), looks := true }, kinds := [], alts := [], laidByText := true, laidKinds := [.data, .data, .data, .sentinel, .sentinel], laidTests := true, laidLooks := .later }
def FnCompareMatchesPrecedenceModelCardSaid : Prop := Claim7.holds Tryd.pinned (.plain (OpenSpec.ofChange fnCompareMatchesPrecedenceModelSpec)) fnCompareMatchesPrecedenceModelCard

/-- THE TIED CARD OF 'zzlaws_pkg_semver_b1.FnCompareAntisymmetricIgnoresBuild'. -/
def fnCompareAntisymmetricIgnoresBuildCard : Claim7 := { stood := { row := fnCompareAntisymmetricIgnoresBuildRow, standIns := [], harness := (true, "4757b285d4873cd46ed5e79e23da4c2bafcc4010020c2c94801ac5185a802026"), looks := true }, kinds := [], alts := [], laidByText := true, laidKinds := [.data, .data, .data, .sentinel, .sentinel], laidTests := true, laidLooks := .later }
def FnCompareAntisymmetricIgnoresBuildCardSaid : Prop := Claim7.holds Tryd.pinned (.plain (OpenSpec.ofChange fnCompareAntisymmetricIgnoresBuildSpec)) fnCompareAntisymmetricIgnoresBuildCard

/-- THE TIED CARD OF 'zzlaws_pkg_semver_b1.FnCompareTotalPreorder'. -/
def fnCompareTotalPreorderCard : Claim7 := { stood := { row := fnCompareTotalPreorderRow, standIns := [], harness := (true, "4757b285d4873cd46ed5e79e23da4c2bafcc4010020c2c94801ac5185a802026"), looks := true }, kinds := [], alts := [], laidByText := true, laidKinds := [.data, .data, .data, .sentinel, .sentinel], laidTests := true, laidLooks := .later }
def FnCompareTotalPreorderCardSaid : Prop := Claim7.holds Tryd.pinned (.plain (OpenSpec.ofChange fnCompareTotalPreorderSpec)) fnCompareTotalPreorderCard

/-- THE TIED CARD OF 'zzlaws_pkg_semver_b1.FnCompareIdentifierMatchesModel'. -/
def fnCompareIdentifierMatchesModelCard : Claim7 := { stood := { row := fnCompareIdentifierMatchesModelRow, standIns := [], harness := (true, "4757b285d4873cd46ed5e79e23da4c2bafcc4010020c2c94801ac5185a802026"), looks := true }, kinds := [], alts := [], laidByText := true, laidKinds := [.data, .data, .data, .sentinel, .sentinel], laidTests := true, laidLooks := .later }
def FnCompareIdentifierMatchesModelCardSaid : Prop := Claim7.holds Tryd.pinned (.plain (OpenSpec.ofChange fnCompareIdentifierMatchesModelSpec)) fnCompareIdentifierMatchesModelCard

/-- THE TIED CARD OF 'zzlaws_pkg_semver_b1.FnCompareIdentifierAntisymmetric'. -/
def fnCompareIdentifierAntisymmetricCard : Claim7 := { stood := { row := fnCompareIdentifierAntisymmetricRow, standIns := [], harness := (true, "4757b285d4873cd46ed5e79e23da4c2bafcc4010020c2c94801ac5185a802026"), looks := true }, kinds := [], alts := [], laidByText := true, laidKinds := [.data, .data, .data, .sentinel, .sentinel], laidTests := true, laidLooks := .later }
def FnCompareIdentifierAntisymmetricCardSaid : Prop := Claim7.holds Tryd.pinned (.plain (OpenSpec.ofChange fnCompareIdentifierAntisymmetricSpec)) fnCompareIdentifierAntisymmetricCard
end Rows
end Go.Proofs.Qxb6602610aDoor
