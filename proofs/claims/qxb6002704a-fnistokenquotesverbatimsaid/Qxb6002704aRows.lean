/-
  No cell of these rows narrows 'for every input' (looked for: loops, veiled, ifaces, maps, wideKeys, modest, calm, conditions, laid).
  DERIVED. THE GIVEN ROWS OF THIS SEAT. 7 by the template 'for every input the law returns true; each argument reads behind the call as it read before'; 0 by the template 'total and deterministic' (their statements: Qxb6002704aTotals.lean).
  GIVEN WITH THE SEED: the statements are not yours to turn. If you find one false, say at which input.
  Laid BY PROGRAM, IN A SANDBOX (cutbox-rows.mjs): the forced cells as the released guide's own fill.sh prints them over the translation 5533ae8a1ff40593… (all of the seat's roots in one cut). By AI agents, Wed Nov 11 2026. No macro, syntax, notation, axiom, sorry.
-/
import Derived.Test.Qxb6002704aChecked
import GoSem.Claim
import GoSem.ClaimJoined
import GoSem.ClaimMapViews
import Derived.JoinedTies
import Derived.KernelRfl
namespace Go.Proofs.Qxb6002704a
/- THE CELL 'sum', in the pinned program and in every row, IS THE sha256 OF THE DUMP (.gsa) THAT Qxb6002704aProg.lean LOADS. Nothing in Lean hashes anything: it is a label: what it is worth is what the hold of that sum in a sandbox is worth. -/
noncomputable def Try.pinned : Pinned := { name := "qxb6002704a", sum := "5533ae8a1ff405939d966591f33bcb9bc4586b642e3efef44a3b330691da078f", checked := Try.checked }
namespace Rows
def none {H : Type} : Left H := { results := [], args := [] }

/-- 'zzlaws_internal_sexp_b1.FnQuoteRoundTrip': WHATEVER THE INPUT: true; the input reads as it did. -/
def fnQuoteRoundTripSpec : ChangeSpec := { name := "fnQuoteRoundTrip", fn := fun _ => fun
  | [d] => { results := [.lit (.bool true)], args := [d] }
  | _ => none }
def fnQuoteRoundTripRow : OpenClaim := { program := "qxb6002704a", sum := "5533ae8a1ff405939d966591f33bcb9bc4586b642e3efef44a3b330691da078f", func := "example.com/liege/liege/zzlaws_internal_sexp_b1.FnQuoteRoundTrip", spec := "fnQuoteRoundTrip", apart := false }
def FnQuoteRoundTripSaid : Prop := fnQuoteRoundTripRow.holds Try.pinned (OpenSpec.ofChange fnQuoteRoundTripSpec)

/-- ITS FALSE NEIGHBOUR: 'it returns false'. Refute it at one input. -/
def fnQuoteRoundTripWrong : ChangeSpec := { name := "fnQuoteRoundTrip", fn := fun _ => fun
  | [d] => { results := [.lit (.bool false)], args := [d] }
  | _ => none }
def FnQuoteRoundTripWrongFalsely : Prop := fnQuoteRoundTripRow.holds Try.pinned (OpenSpec.ofChange fnQuoteRoundTripWrong)

/-- 'zzlaws_internal_sexp_b1.FnQuoteKeepsTextExactly': WHATEVER THE INPUT: true; the input reads as it did. -/
def fnQuoteKeepsTextExactlySpec : ChangeSpec := { name := "fnQuoteKeepsTextExactly", fn := fun _ => fun
  | [d] => { results := [.lit (.bool true)], args := [d] }
  | _ => none }
def fnQuoteKeepsTextExactlyRow : OpenClaim := { program := "qxb6002704a", sum := "5533ae8a1ff405939d966591f33bcb9bc4586b642e3efef44a3b330691da078f", func := "example.com/liege/liege/zzlaws_internal_sexp_b1.FnQuoteKeepsTextExactly", spec := "fnQuoteKeepsTextExactly", apart := false }
def FnQuoteKeepsTextExactlySaid : Prop := fnQuoteKeepsTextExactlyRow.holds Try.pinned (OpenSpec.ofChange fnQuoteKeepsTextExactlySpec)

/-- ITS FALSE NEIGHBOUR: 'it returns false'. Refute it at one input. -/
def fnQuoteKeepsTextExactlyWrong : ChangeSpec := { name := "fnQuoteKeepsTextExactly", fn := fun _ => fun
  | [d] => { results := [.lit (.bool false)], args := [d] }
  | _ => none }
def FnQuoteKeepsTextExactlyWrongFalsely : Prop := fnQuoteKeepsTextExactlyRow.holds Try.pinned (OpenSpec.ofChange fnQuoteKeepsTextExactlyWrong)

/-- 'zzlaws_internal_sexp_b1.FnQuoteLengthBounds': WHATEVER THE INPUT: true; the input reads as it did. -/
def fnQuoteLengthBoundsSpec : ChangeSpec := { name := "fnQuoteLengthBounds", fn := fun _ => fun
  | [d] => { results := [.lit (.bool true)], args := [d] }
  | _ => none }
def fnQuoteLengthBoundsRow : OpenClaim := { program := "qxb6002704a", sum := "5533ae8a1ff405939d966591f33bcb9bc4586b642e3efef44a3b330691da078f", func := "example.com/liege/liege/zzlaws_internal_sexp_b1.FnQuoteLengthBounds", spec := "fnQuoteLengthBounds", apart := false }
def FnQuoteLengthBoundsSaid : Prop := fnQuoteLengthBoundsRow.holds Try.pinned (OpenSpec.ofChange fnQuoteLengthBoundsSpec)

/-- ITS FALSE NEIGHBOUR: 'it returns false'. Refute it at one input. -/
def fnQuoteLengthBoundsWrong : ChangeSpec := { name := "fnQuoteLengthBounds", fn := fun _ => fun
  | [d] => { results := [.lit (.bool false)], args := [d] }
  | _ => none }
def FnQuoteLengthBoundsWrongFalsely : Prop := fnQuoteLengthBoundsRow.holds Try.pinned (OpenSpec.ofChange fnQuoteLengthBoundsWrong)

/-- 'zzlaws_internal_sexp_b1.FnCanonicalLenListSplit': WHATEVER THE INPUT: true; the input reads as it did. -/
def fnCanonicalLenListSplitSpec : ChangeSpec := { name := "fnCanonicalLenListSplit", fn := fun _ => fun
  | [d1, d2, d3] => { results := [.lit (.bool true)], args := [d1, d2, d3] }
  | _ => none }
def fnCanonicalLenListSplitRow : OpenClaim := { program := "qxb6002704a", sum := "5533ae8a1ff405939d966591f33bcb9bc4586b642e3efef44a3b330691da078f", func := "example.com/liege/liege/zzlaws_internal_sexp_b1.FnCanonicalLenListSplit", spec := "fnCanonicalLenListSplit", recurses := true, apart := false }
def FnCanonicalLenListSplitSaid : Prop := fnCanonicalLenListSplitRow.holds Try.pinned (OpenSpec.ofChange fnCanonicalLenListSplitSpec)

/-- ITS FALSE NEIGHBOUR: 'it returns false'. Refute it at one input. -/
def fnCanonicalLenListSplitWrong : ChangeSpec := { name := "fnCanonicalLenListSplit", fn := fun _ => fun
  | [d1, d2, d3] => { results := [.lit (.bool false)], args := [d1, d2, d3] }
  | _ => none }
def FnCanonicalLenListSplitWrongFalsely : Prop := fnCanonicalLenListSplitRow.holds Try.pinned (OpenSpec.ofChange fnCanonicalLenListSplitWrong)

/-- 'zzlaws_internal_sexp_b1.FnCanonicalLenGrowsByOneByte': WHATEVER THE INPUT: true; the input reads as it did. -/
def fnCanonicalLenGrowsByOneByteSpec : ChangeSpec := { name := "fnCanonicalLenGrowsByOneByte", fn := fun _ => fun
  | [d1, d2] => { results := [.lit (.bool true)], args := [d1, d2] }
  | _ => none }
def fnCanonicalLenGrowsByOneByteRow : OpenClaim := { program := "qxb6002704a", sum := "5533ae8a1ff405939d966591f33bcb9bc4586b642e3efef44a3b330691da078f", func := "example.com/liege/liege/zzlaws_internal_sexp_b1.FnCanonicalLenGrowsByOneByte", spec := "fnCanonicalLenGrowsByOneByte", recurses := true, apart := false }
def FnCanonicalLenGrowsByOneByteSaid : Prop := fnCanonicalLenGrowsByOneByteRow.holds Try.pinned (OpenSpec.ofChange fnCanonicalLenGrowsByOneByteSpec)

/-- ITS FALSE NEIGHBOUR: 'it returns false'. Refute it at one input. -/
def fnCanonicalLenGrowsByOneByteWrong : ChangeSpec := { name := "fnCanonicalLenGrowsByOneByte", fn := fun _ => fun
  | [d1, d2] => { results := [.lit (.bool false)], args := [d1, d2] }
  | _ => none }
def FnCanonicalLenGrowsByOneByteWrongFalsely : Prop := fnCanonicalLenGrowsByOneByteRow.holds Try.pinned (OpenSpec.ofChange fnCanonicalLenGrowsByOneByteWrong)

/-- 'zzlaws_internal_sexp_b1.FnIsTokenConcat': WHATEVER THE INPUT: true; the input reads as it did. -/
def fnIsTokenConcatSpec : ChangeSpec := { name := "fnIsTokenConcat", fn := fun _ => fun
  | [d1, d2] => { results := [.lit (.bool true)], args := [d1, d2] }
  | _ => none }
def fnIsTokenConcatRow : OpenClaim := { program := "qxb6002704a", sum := "5533ae8a1ff405939d966591f33bcb9bc4586b642e3efef44a3b330691da078f", func := "example.com/liege/liege/zzlaws_internal_sexp_b1.FnIsTokenConcat", spec := "fnIsTokenConcat", apart := false }
def FnIsTokenConcatSaid : Prop := fnIsTokenConcatRow.holds Try.pinned (OpenSpec.ofChange fnIsTokenConcatSpec)

/-- ITS FALSE NEIGHBOUR: 'it returns false'. Refute it at one input. -/
def fnIsTokenConcatWrong : ChangeSpec := { name := "fnIsTokenConcat", fn := fun _ => fun
  | [d1, d2] => { results := [.lit (.bool false)], args := [d1, d2] }
  | _ => none }
def FnIsTokenConcatWrongFalsely : Prop := fnIsTokenConcatRow.holds Try.pinned (OpenSpec.ofChange fnIsTokenConcatWrong)

/-- 'zzlaws_internal_sexp_b1.FnIsTokenQuotesVerbatim': WHATEVER THE INPUT: true; the input reads as it did. -/
def fnIsTokenQuotesVerbatimSpec : ChangeSpec := { name := "fnIsTokenQuotesVerbatim", fn := fun _ => fun
  | [d] => { results := [.lit (.bool true)], args := [d] }
  | _ => none }
def fnIsTokenQuotesVerbatimRow : OpenClaim := { program := "qxb6002704a", sum := "5533ae8a1ff405939d966591f33bcb9bc4586b642e3efef44a3b330691da078f", func := "example.com/liege/liege/zzlaws_internal_sexp_b1.FnIsTokenQuotesVerbatim", spec := "fnIsTokenQuotesVerbatim", apart := false }
def FnIsTokenQuotesVerbatimSaid : Prop := fnIsTokenQuotesVerbatimRow.holds Try.pinned (OpenSpec.ofChange fnIsTokenQuotesVerbatimSpec)

/-- ITS FALSE NEIGHBOUR: 'it returns false'. Refute it at one input. -/
def fnIsTokenQuotesVerbatimWrong : ChangeSpec := { name := "fnIsTokenQuotesVerbatim", fn := fun _ => fun
  | [d] => { results := [.lit (.bool false)], args := [d] }
  | _ => none }
def FnIsTokenQuotesVerbatimWrongFalsely : Prop := fnIsTokenQuotesVerbatimRow.holds Try.pinned (OpenSpec.ofChange fnIsTokenQuotesVerbatimWrong)

end Rows
end Go.Proofs.Qxb6002704a
