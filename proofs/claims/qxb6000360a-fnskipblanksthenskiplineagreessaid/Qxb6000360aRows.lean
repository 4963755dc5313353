/-
  No cell of these rows narrows 'for every input' (looked for: loops, veiled, ifaces, maps, wideKeys, modest, calm, conditions, laid).
  DERIVED. THE GIVEN ROWS OF THIS SEAT. 7 by the template 'for every input the law returns true; each argument reads behind the call as it read before'; 0 by the template 'total and deterministic' (their statements: Qxb6000360aTotals.lean).
  GIVEN WITH THE SEED: the statements are not yours to turn. If you find one false, say at which input.
  Laid BY PROGRAM, IN A SANDBOX (cutbox-rows.mjs): the forced cells as the released guide's own fill.sh prints them over the translation a4b935708d1add89… (all of the seat's roots in one cut). By AI agents, Wed Nov 11 2026. No macro, syntax, notation, axiom, sorry.
-/
import Derived.Test.Qxb6000360aChecked
import GoSem.Claim
import GoSem.ClaimJoined
import GoSem.ClaimMapViews
import Derived.JoinedTies
import Derived.KernelRfl
namespace Go.Proofs.Qxb6000360a
/- THE CELL 'sum', in the pinned program and in every row, IS THE sha256 OF THE DUMP (.gsa) THAT Qxb6000360aProg.lean LOADS. Nothing in Lean hashes anything: it is a label: what it is worth is what the hold of that sum in a sandbox is worth. -/
noncomputable def Try.pinned : Pinned := { name := "qxb6000360a", sum := "a4b935708d1add89872462d6788a31f8b74c963405de1870efe9b390e52b6f63", checked := Try.checked }
namespace Rows
def none {H : Type} : Left H := { results := [], args := [] }

/-- 'zzlaws_internal_dotenv_b1.FnIsNameByteMatchesShellAlphabet': WHATEVER THE INPUT: true; the input reads as it did. -/
def fnIsNameByteMatchesShellAlphabetSpec : ChangeSpec := { name := "fnIsNameByteMatchesShellAlphabet", fn := fun _ => fun
  | [d] => { results := [.lit (.bool true)], args := [d] }
  | _ => none }
def fnIsNameByteMatchesShellAlphabetRow : OpenClaim := { program := "qxb6000360a", sum := "a4b935708d1add89872462d6788a31f8b74c963405de1870efe9b390e52b6f63", func := "example.com/latchkey/latchkey/zzlaws_internal_dotenv_b1.FnIsNameByteMatchesShellAlphabet", spec := "fnIsNameByteMatchesShellAlphabet", apart := false }
def FnIsNameByteMatchesShellAlphabetSaid : Prop := fnIsNameByteMatchesShellAlphabetRow.holds Try.pinned (OpenSpec.ofChange fnIsNameByteMatchesShellAlphabetSpec)

/-- ITS FALSE NEIGHBOUR: 'it returns false'. Refute it at one input. -/
def fnIsNameByteMatchesShellAlphabetWrong : ChangeSpec := { name := "fnIsNameByteMatchesShellAlphabet", fn := fun _ => fun
  | [d] => { results := [.lit (.bool false)], args := [d] }
  | _ => none }
def FnIsNameByteMatchesShellAlphabetWrongFalsely : Prop := fnIsNameByteMatchesShellAlphabetRow.holds Try.pinned (OpenSpec.ofChange fnIsNameByteMatchesShellAlphabetWrong)

/-- 'zzlaws_internal_dotenv_b1.FnIsNameByteFirstImpliesLater': WHATEVER THE INPUT: true; the input reads as it did. -/
def fnIsNameByteFirstImpliesLaterSpec : ChangeSpec := { name := "fnIsNameByteFirstImpliesLater", fn := fun _ => fun
  | [d] => { results := [.lit (.bool true)], args := [d] }
  | _ => none }
def fnIsNameByteFirstImpliesLaterRow : OpenClaim := { program := "qxb6000360a", sum := "a4b935708d1add89872462d6788a31f8b74c963405de1870efe9b390e52b6f63", func := "example.com/latchkey/latchkey/zzlaws_internal_dotenv_b1.FnIsNameByteFirstImpliesLater", spec := "fnIsNameByteFirstImpliesLater", apart := false }
def FnIsNameByteFirstImpliesLaterSaid : Prop := fnIsNameByteFirstImpliesLaterRow.holds Try.pinned (OpenSpec.ofChange fnIsNameByteFirstImpliesLaterSpec)

/-- ITS FALSE NEIGHBOUR: 'it returns false'. Refute it at one input. -/
def fnIsNameByteFirstImpliesLaterWrong : ChangeSpec := { name := "fnIsNameByteFirstImpliesLater", fn := fun _ => fun
  | [d] => { results := [.lit (.bool false)], args := [d] }
  | _ => none }
def FnIsNameByteFirstImpliesLaterWrongFalsely : Prop := fnIsNameByteFirstImpliesLaterRow.holds Try.pinned (OpenSpec.ofChange fnIsNameByteFirstImpliesLaterWrong)

/-- 'zzlaws_internal_dotenv_b1.FnSkipBlanksStopsAtFirstNonBlank': WHATEVER THE INPUT: true; the input reads as it did. -/
def fnSkipBlanksStopsAtFirstNonBlankSpec : ChangeSpec := { name := "fnSkipBlanksStopsAtFirstNonBlank", fn := fun _ => fun
  | [d1, d2, d3] => { results := [.lit (.bool true)], args := [d1, d2, d3] }
  | _ => none }
def fnSkipBlanksStopsAtFirstNonBlankRow : OpenClaim := { program := "qxb6000360a", sum := "a4b935708d1add89872462d6788a31f8b74c963405de1870efe9b390e52b6f63", func := "example.com/latchkey/latchkey/zzlaws_internal_dotenv_b1.FnSkipBlanksStopsAtFirstNonBlank", spec := "fnSkipBlanksStopsAtFirstNonBlank", apart := false }
def FnSkipBlanksStopsAtFirstNonBlankSaid : Prop := fnSkipBlanksStopsAtFirstNonBlankRow.holds Try.pinned (OpenSpec.ofChange fnSkipBlanksStopsAtFirstNonBlankSpec)

/-- ITS FALSE NEIGHBOUR: 'it returns false'. Refute it at one input. -/
def fnSkipBlanksStopsAtFirstNonBlankWrong : ChangeSpec := { name := "fnSkipBlanksStopsAtFirstNonBlank", fn := fun _ => fun
  | [d1, d2, d3] => { results := [.lit (.bool false)], args := [d1, d2, d3] }
  | _ => none }
def FnSkipBlanksStopsAtFirstNonBlankWrongFalsely : Prop := fnSkipBlanksStopsAtFirstNonBlankRow.holds Try.pinned (OpenSpec.ofChange fnSkipBlanksStopsAtFirstNonBlankWrong)

/-- 'zzlaws_internal_dotenv_b1.FnSkipBlanksIdempotent': WHATEVER THE INPUT: true; the input reads as it did. -/
def fnSkipBlanksIdempotentSpec : ChangeSpec := { name := "fnSkipBlanksIdempotent", fn := fun _ => fun
  | [d1, d2, d3] => { results := [.lit (.bool true)], args := [d1, d2, d3] }
  | _ => none }
def fnSkipBlanksIdempotentRow : OpenClaim := { program := "qxb6000360a", sum := "a4b935708d1add89872462d6788a31f8b74c963405de1870efe9b390e52b6f63", func := "example.com/latchkey/latchkey/zzlaws_internal_dotenv_b1.FnSkipBlanksIdempotent", spec := "fnSkipBlanksIdempotent", apart := false }
def FnSkipBlanksIdempotentSaid : Prop := fnSkipBlanksIdempotentRow.holds Try.pinned (OpenSpec.ofChange fnSkipBlanksIdempotentSpec)

/-- ITS FALSE NEIGHBOUR: 'it returns false'. Refute it at one input. -/
def fnSkipBlanksIdempotentWrong : ChangeSpec := { name := "fnSkipBlanksIdempotent", fn := fun _ => fun
  | [d1, d2, d3] => { results := [.lit (.bool false)], args := [d1, d2, d3] }
  | _ => none }
def FnSkipBlanksIdempotentWrongFalsely : Prop := fnSkipBlanksIdempotentRow.holds Try.pinned (OpenSpec.ofChange fnSkipBlanksIdempotentWrong)

/-- 'zzlaws_internal_dotenv_b1.FnSkipLineEndsJustPastNewline': WHATEVER THE INPUT: true; the input reads as it did. -/
def fnSkipLineEndsJustPastNewlineSpec : ChangeSpec := { name := "fnSkipLineEndsJustPastNewline", fn := fun _ => fun
  | [d1, d2, d3] => { results := [.lit (.bool true)], args := [d1, d2, d3] }
  | _ => none }
def fnSkipLineEndsJustPastNewlineRow : OpenClaim := { program := "qxb6000360a", sum := "a4b935708d1add89872462d6788a31f8b74c963405de1870efe9b390e52b6f63", func := "example.com/latchkey/latchkey/zzlaws_internal_dotenv_b1.FnSkipLineEndsJustPastNewline", spec := "fnSkipLineEndsJustPastNewline", inPlace := ["internal/bytealg.IndexByte"], apart := false }
def FnSkipLineEndsJustPastNewlineSaid : Prop := fnSkipLineEndsJustPastNewlineRow.holds Try.pinned (OpenSpec.ofChange fnSkipLineEndsJustPastNewlineSpec)

/-- ITS FALSE NEIGHBOUR: 'it returns false'. Refute it at one input. -/
def fnSkipLineEndsJustPastNewlineWrong : ChangeSpec := { name := "fnSkipLineEndsJustPastNewline", fn := fun _ => fun
  | [d1, d2, d3] => { results := [.lit (.bool false)], args := [d1, d2, d3] }
  | _ => none }
def FnSkipLineEndsJustPastNewlineWrongFalsely : Prop := fnSkipLineEndsJustPastNewlineRow.holds Try.pinned (OpenSpec.ofChange fnSkipLineEndsJustPastNewlineWrong)

/-- 'zzlaws_internal_dotenv_b1.FnSkipLineCountsNewlines': WHATEVER THE INPUT: true; the input reads as it did. -/
def fnSkipLineCountsNewlinesSpec : ChangeSpec := { name := "fnSkipLineCountsNewlines", fn := fun _ => fun
  | [d1, d2] => { results := [.lit (.bool true)], args := [d1, d2] }
  | _ => none }
def fnSkipLineCountsNewlinesRow : OpenClaim := { program := "qxb6000360a", sum := "a4b935708d1add89872462d6788a31f8b74c963405de1870efe9b390e52b6f63", func := "example.com/latchkey/latchkey/zzlaws_internal_dotenv_b1.FnSkipLineCountsNewlines", spec := "fnSkipLineCountsNewlines", inPlace := ["internal/bytealg.IndexByte"], apart := false }
def FnSkipLineCountsNewlinesSaid : Prop := fnSkipLineCountsNewlinesRow.holds Try.pinned (OpenSpec.ofChange fnSkipLineCountsNewlinesSpec)

/-- ITS FALSE NEIGHBOUR: 'it returns false'. Refute it at one input. -/
def fnSkipLineCountsNewlinesWrong : ChangeSpec := { name := "fnSkipLineCountsNewlines", fn := fun _ => fun
  | [d1, d2] => { results := [.lit (.bool false)], args := [d1, d2] }
  | _ => none }
def FnSkipLineCountsNewlinesWrongFalsely : Prop := fnSkipLineCountsNewlinesRow.holds Try.pinned (OpenSpec.ofChange fnSkipLineCountsNewlinesWrong)

/-- 'zzlaws_internal_dotenv_b1.FnSkipBlanksThenSkipLineAgrees': WHATEVER THE INPUT: true; the input reads as it did. -/
def fnSkipBlanksThenSkipLineAgreesSpec : ChangeSpec := { name := "fnSkipBlanksThenSkipLineAgrees", fn := fun _ => fun
  | [d1, d2, d3] => { results := [.lit (.bool true)], args := [d1, d2, d3] }
  | _ => none }
def fnSkipBlanksThenSkipLineAgreesRow : OpenClaim := { program := "qxb6000360a", sum := "a4b935708d1add89872462d6788a31f8b74c963405de1870efe9b390e52b6f63", func := "example.com/latchkey/latchkey/zzlaws_internal_dotenv_b1.FnSkipBlanksThenSkipLineAgrees", spec := "fnSkipBlanksThenSkipLineAgrees", inPlace := ["internal/bytealg.IndexByte"], apart := false }
def FnSkipBlanksThenSkipLineAgreesSaid : Prop := fnSkipBlanksThenSkipLineAgreesRow.holds Try.pinned (OpenSpec.ofChange fnSkipBlanksThenSkipLineAgreesSpec)

/-- ITS FALSE NEIGHBOUR: 'it returns false'. Refute it at one input. -/
def fnSkipBlanksThenSkipLineAgreesWrong : ChangeSpec := { name := "fnSkipBlanksThenSkipLineAgrees", fn := fun _ => fun
  | [d1, d2, d3] => { results := [.lit (.bool false)], args := [d1, d2, d3] }
  | _ => none }
def FnSkipBlanksThenSkipLineAgreesWrongFalsely : Prop := fnSkipBlanksThenSkipLineAgreesRow.holds Try.pinned (OpenSpec.ofChange fnSkipBlanksThenSkipLineAgreesWrong)

end Rows
end Go.Proofs.Qxb6000360a
