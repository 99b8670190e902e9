/-
  No cell of these rows narrows 'for every input' (looked for: loops, veiled, ifaces, maps, wideKeys, modest, calm, conditions, laid).
  DERIVED. THE GIVEN ROWS OF THIS SEAT. 9 by the template 'for every input the law returns true; each argument reads behind the call as it read before'; 0 by the template 'total and deterministic' (their statements: Qxb6601606aTotals.lean).
  GIVEN WITH THE SEED: the statements are not yours to turn. If you find one false, say at which input.
  Laid BY PROGRAM, IN A SANDBOX (cutbox-rows.mjs): the forced cells as the released guide's own fill.sh prints them over the translation 4cb12d43e7075157… (all of the seat's roots in one cut). By AI agents, Wed Nov 11 2026. No macro, syntax, notation, axiom, sorry.
-/
import Derived.Test.Qxb6601606aChecked
import GoSem.Claim
import GoSem.ClaimJoined
import GoSem.ClaimMapViews
import Derived.JoinedTies
import Derived.KernelRfl
namespace Go.Proofs.Qxb6601606a
/- THE CELL 'sum', in the pinned program and in every row, IS THE sha256 OF THE DUMP (.gsa) THAT Qxb6601606aProg.lean LOADS. Nothing in Lean hashes anything: it is a label: what it is worth is what the hold of that sum in a sandbox is worth. -/
noncomputable def Try.pinned : Pinned := { name := "qxb6601606a", sum := "4cb12d43e7075157e09a6792fcd0ccff2a98a1bc06765f11f2d8f6247617ccea", checked := Try.checked }
namespace Rows
def none {H : Type} : Left H := { results := [], args := [] }

/-- 'zzlaws_internal_markdown_b1.FnTagLengthMatchesAutomaton': WHATEVER THE INPUT: true; the input reads as it did. -/
def fnTagLengthMatchesAutomatonSpec : ChangeSpec := { name := "fnTagLengthMatchesAutomaton", fn := fun _ => fun
  | [d] => { results := [.lit (.bool true)], args := [d] }
  | _ => none }
def fnTagLengthMatchesAutomatonRow : OpenClaim := { program := "qxb6601606a", sum := "4cb12d43e7075157e09a6792fcd0ccff2a98a1bc06765f11f2d8f6247617ccea", func := "example.com/nabu/nabu/zzlaws_internal_markdown_b1.FnTagLengthMatchesAutomaton", spec := "fnTagLengthMatchesAutomaton", inPlace := ["internal/bytealg.IndexByteString"], apart := false }
def FnTagLengthMatchesAutomatonSaid : Prop := fnTagLengthMatchesAutomatonRow.holds Try.pinned (OpenSpec.ofChange fnTagLengthMatchesAutomatonSpec)

/-- ITS FALSE NEIGHBOUR: 'it returns false'. Refute it at one input. -/
def fnTagLengthMatchesAutomatonWrong : ChangeSpec := { name := "fnTagLengthMatchesAutomaton", fn := fun _ => fun
  | [d] => { results := [.lit (.bool false)], args := [d] }
  | _ => none }
def FnTagLengthMatchesAutomatonWrongFalsely : Prop := fnTagLengthMatchesAutomatonRow.holds Try.pinned (OpenSpec.ofChange fnTagLengthMatchesAutomatonWrong)

/-- 'zzlaws_internal_markdown_b1.FnTagLengthDecidedAtItsClose': WHATEVER THE INPUT: true; the input reads as it did. -/
def fnTagLengthDecidedAtItsCloseSpec : ChangeSpec := { name := "fnTagLengthDecidedAtItsClose", fn := fun _ => fun
  | [d1, d2] => { results := [.lit (.bool true)], args := [d1, d2] }
  | _ => none }
def fnTagLengthDecidedAtItsCloseRow : OpenClaim := { program := "qxb6601606a", sum := "4cb12d43e7075157e09a6792fcd0ccff2a98a1bc06765f11f2d8f6247617ccea", func := "example.com/nabu/nabu/zzlaws_internal_markdown_b1.FnTagLengthDecidedAtItsClose", spec := "fnTagLengthDecidedAtItsClose", inPlace := ["internal/bytealg.IndexByteString"], apart := false }
def FnTagLengthDecidedAtItsCloseSaid : Prop := fnTagLengthDecidedAtItsCloseRow.holds Try.pinned (OpenSpec.ofChange fnTagLengthDecidedAtItsCloseSpec)

/-- ITS FALSE NEIGHBOUR: 'it returns false'. Refute it at one input. -/
def fnTagLengthDecidedAtItsCloseWrong : ChangeSpec := { name := "fnTagLengthDecidedAtItsClose", fn := fun _ => fun
  | [d1, d2] => { results := [.lit (.bool false)], args := [d1, d2] }
  | _ => none }
def FnTagLengthDecidedAtItsCloseWrongFalsely : Prop := fnTagLengthDecidedAtItsCloseRow.holds Try.pinned (OpenSpec.ofChange fnTagLengthDecidedAtItsCloseWrong)

/-- 'zzlaws_internal_markdown_b1.FnTagLengthPrefixes': WHATEVER THE INPUT: true; the input reads as it did. -/
def fnTagLengthPrefixesSpec : ChangeSpec := { name := "fnTagLengthPrefixes", fn := fun _ => fun
  | [d1, d2] => { results := [.lit (.bool true)], args := [d1, d2] }
  | _ => none }
def fnTagLengthPrefixesRow : OpenClaim := { program := "qxb6601606a", sum := "4cb12d43e7075157e09a6792fcd0ccff2a98a1bc06765f11f2d8f6247617ccea", func := "example.com/nabu/nabu/zzlaws_internal_markdown_b1.FnTagLengthPrefixes", spec := "fnTagLengthPrefixes", inPlace := ["internal/bytealg.IndexByteString"], apart := false }
def FnTagLengthPrefixesSaid : Prop := fnTagLengthPrefixesRow.holds Try.pinned (OpenSpec.ofChange fnTagLengthPrefixesSpec)

/-- ITS FALSE NEIGHBOUR: 'it returns false'. Refute it at one input. -/
def fnTagLengthPrefixesWrong : ChangeSpec := { name := "fnTagLengthPrefixes", fn := fun _ => fun
  | [d1, d2] => { results := [.lit (.bool false)], args := [d1, d2] }
  | _ => none }
def FnTagLengthPrefixesWrongFalsely : Prop := fnTagLengthPrefixesRow.holds Try.pinned (OpenSpec.ofChange fnTagLengthPrefixesWrong)

/-- 'zzlaws_internal_markdown_b1.FnDestinationMatchesParityModel': WHATEVER THE INPUT: true; the input reads as it did. -/
def fnDestinationMatchesParityModelSpec : ChangeSpec := { name := "fnDestinationMatchesParityModel", fn := fun _ => fun
  | [d1, d2] => { results := [.lit (.bool true)], args := [d1, d2] }
  | _ => none }
def fnDestinationMatchesParityModelRow : OpenClaim := { program := "qxb6601606a", sum := "4cb12d43e7075157e09a6792fcd0ccff2a98a1bc06765f11f2d8f6247617ccea", func := "example.com/nabu/nabu/zzlaws_internal_markdown_b1.FnDestinationMatchesParityModel", spec := "fnDestinationMatchesParityModel", apart := false }
def FnDestinationMatchesParityModelSaid : Prop := fnDestinationMatchesParityModelRow.holds Try.pinned (OpenSpec.ofChange fnDestinationMatchesParityModelSpec)

/-- ITS FALSE NEIGHBOUR: 'it returns false'. Refute it at one input. -/
def fnDestinationMatchesParityModelWrong : ChangeSpec := { name := "fnDestinationMatchesParityModel", fn := fun _ => fun
  | [d1, d2] => { results := [.lit (.bool false)], args := [d1, d2] }
  | _ => none }
def FnDestinationMatchesParityModelWrongFalsely : Prop := fnDestinationMatchesParityModelRow.holds Try.pinned (OpenSpec.ofChange fnDestinationMatchesParityModelWrong)

/-- 'zzlaws_internal_markdown_b1.FnDestinationReadsNothingBeforeI': WHATEVER THE INPUT: true; the input reads as it did. -/
def fnDestinationReadsNothingBeforeISpec : ChangeSpec := { name := "fnDestinationReadsNothingBeforeI", fn := fun _ => fun
  | [d1, d2, d3] => { results := [.lit (.bool true)], args := [d1, d2, d3] }
  | _ => none }
def fnDestinationReadsNothingBeforeIRow : OpenClaim := { program := "qxb6601606a", sum := "4cb12d43e7075157e09a6792fcd0ccff2a98a1bc06765f11f2d8f6247617ccea", func := "example.com/nabu/nabu/zzlaws_internal_markdown_b1.FnDestinationReadsNothingBeforeI", spec := "fnDestinationReadsNothingBeforeI", apart := false }
def FnDestinationReadsNothingBeforeISaid : Prop := fnDestinationReadsNothingBeforeIRow.holds Try.pinned (OpenSpec.ofChange fnDestinationReadsNothingBeforeISpec)

/-- ITS FALSE NEIGHBOUR: 'it returns false'. Refute it at one input. -/
def fnDestinationReadsNothingBeforeIWrong : ChangeSpec := { name := "fnDestinationReadsNothingBeforeI", fn := fun _ => fun
  | [d1, d2, d3] => { results := [.lit (.bool false)], args := [d1, d2, d3] }
  | _ => none }
def FnDestinationReadsNothingBeforeIWrongFalsely : Prop := fnDestinationReadsNothingBeforeIRow.holds Try.pinned (OpenSpec.ofChange fnDestinationReadsNothingBeforeIWrong)

/-- 'zzlaws_internal_markdown_b1.FnDestinationPrefixes': WHATEVER THE INPUT: true; the input reads as it did. -/
def fnDestinationPrefixesSpec : ChangeSpec := { name := "fnDestinationPrefixes", fn := fun _ => fun
  | [d1, d2, d3] => { results := [.lit (.bool true)], args := [d1, d2, d3] }
  | _ => none }
def fnDestinationPrefixesRow : OpenClaim := { program := "qxb6601606a", sum := "4cb12d43e7075157e09a6792fcd0ccff2a98a1bc06765f11f2d8f6247617ccea", func := "example.com/nabu/nabu/zzlaws_internal_markdown_b1.FnDestinationPrefixes", spec := "fnDestinationPrefixes", apart := false }
def FnDestinationPrefixesSaid : Prop := fnDestinationPrefixesRow.holds Try.pinned (OpenSpec.ofChange fnDestinationPrefixesSpec)

/-- ITS FALSE NEIGHBOUR: 'it returns false'. Refute it at one input. -/
def fnDestinationPrefixesWrong : ChangeSpec := { name := "fnDestinationPrefixes", fn := fun _ => fun
  | [d1, d2, d3] => { results := [.lit (.bool false)], args := [d1, d2, d3] }
  | _ => none }
def FnDestinationPrefixesWrongFalsely : Prop := fnDestinationPrefixesRow.holds Try.pinned (OpenSpec.ofChange fnDestinationPrefixesWrong)

/-- 'zzlaws_internal_markdown_b1.FnTitleMatchesLastCloserModel': WHATEVER THE INPUT: true; the input reads as it did. -/
def fnTitleMatchesLastCloserModelSpec : ChangeSpec := { name := "fnTitleMatchesLastCloserModel", fn := fun _ => fun
  | [d1, d2] => { results := [.lit (.bool true)], args := [d1, d2] }
  | _ => none }
def fnTitleMatchesLastCloserModelRow : OpenClaim := { program := "qxb6601606a", sum := "4cb12d43e7075157e09a6792fcd0ccff2a98a1bc06765f11f2d8f6247617ccea", func := "example.com/nabu/nabu/zzlaws_internal_markdown_b1.FnTitleMatchesLastCloserModel", spec := "fnTitleMatchesLastCloserModel", apart := false }
def FnTitleMatchesLastCloserModelSaid : Prop := fnTitleMatchesLastCloserModelRow.holds Try.pinned (OpenSpec.ofChange fnTitleMatchesLastCloserModelSpec)

/-- ITS FALSE NEIGHBOUR: 'it returns false'. Refute it at one input. -/
def fnTitleMatchesLastCloserModelWrong : ChangeSpec := { name := "fnTitleMatchesLastCloserModel", fn := fun _ => fun
  | [d1, d2] => { results := [.lit (.bool false)], args := [d1, d2] }
  | _ => none }
def FnTitleMatchesLastCloserModelWrongFalsely : Prop := fnTitleMatchesLastCloserModelRow.holds Try.pinned (OpenSpec.ofChange fnTitleMatchesLastCloserModelWrong)

/-- 'zzlaws_internal_markdown_b1.FnTitleReadsNothingBeforeI': WHATEVER THE INPUT: true; the input reads as it did. -/
def fnTitleReadsNothingBeforeISpec : ChangeSpec := { name := "fnTitleReadsNothingBeforeI", fn := fun _ => fun
  | [d1, d2, d3] => { results := [.lit (.bool true)], args := [d1, d2, d3] }
  | _ => none }
def fnTitleReadsNothingBeforeIRow : OpenClaim := { program := "qxb6601606a", sum := "4cb12d43e7075157e09a6792fcd0ccff2a98a1bc06765f11f2d8f6247617ccea", func := "example.com/nabu/nabu/zzlaws_internal_markdown_b1.FnTitleReadsNothingBeforeI", spec := "fnTitleReadsNothingBeforeI", apart := false }
def FnTitleReadsNothingBeforeISaid : Prop := fnTitleReadsNothingBeforeIRow.holds Try.pinned (OpenSpec.ofChange fnTitleReadsNothingBeforeISpec)

/-- ITS FALSE NEIGHBOUR: 'it returns false'. Refute it at one input. -/
def fnTitleReadsNothingBeforeIWrong : ChangeSpec := { name := "fnTitleReadsNothingBeforeI", fn := fun _ => fun
  | [d1, d2, d3] => { results := [.lit (.bool false)], args := [d1, d2, d3] }
  | _ => none }
def FnTitleReadsNothingBeforeIWrongFalsely : Prop := fnTitleReadsNothingBeforeIRow.holds Try.pinned (OpenSpec.ofChange fnTitleReadsNothingBeforeIWrong)

/-- 'zzlaws_internal_markdown_b1.FnTitlePrefixes': WHATEVER THE INPUT: true; the input reads as it did. -/
def fnTitlePrefixesSpec : ChangeSpec := { name := "fnTitlePrefixes", fn := fun _ => fun
  | [d1, d2, d3] => { results := [.lit (.bool true)], args := [d1, d2, d3] }
  | _ => none }
def fnTitlePrefixesRow : OpenClaim := { program := "qxb6601606a", sum := "4cb12d43e7075157e09a6792fcd0ccff2a98a1bc06765f11f2d8f6247617ccea", func := "example.com/nabu/nabu/zzlaws_internal_markdown_b1.FnTitlePrefixes", spec := "fnTitlePrefixes", apart := false }
def FnTitlePrefixesSaid : Prop := fnTitlePrefixesRow.holds Try.pinned (OpenSpec.ofChange fnTitlePrefixesSpec)

/-- ITS FALSE NEIGHBOUR: 'it returns false'. Refute it at one input. -/
def fnTitlePrefixesWrong : ChangeSpec := { name := "fnTitlePrefixes", fn := fun _ => fun
  | [d1, d2, d3] => { results := [.lit (.bool false)], args := [d1, d2, d3] }
  | _ => none }
def FnTitlePrefixesWrongFalsely : Prop := fnTitlePrefixesRow.holds Try.pinned (OpenSpec.ofChange fnTitlePrefixesWrong)

end Rows
end Go.Proofs.Qxb6601606a
