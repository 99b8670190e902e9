/-
  No cell of these rows narrows 'for every input' (looked for: loops, veiled, ifaces, maps, wideKeys, modest, calm, conditions, laid).
  DERIVED. THE GIVEN ROWS OF THIS SEAT. 4 by the template 'for every input the law returns true; each argument reads behind the call as it read before'; 0 by the template 'total and deterministic' (their statements: Qxb6601220aTotals.lean).
  GIVEN WITH THE SEED: the statements are not yours to turn. If you find one false, say at which input.
  Laid BY PROGRAM, IN A SANDBOX (cutbox-rows.mjs): the forced cells as the released guide's own fill.sh prints them over the translation 63c4c161c6b6c794… (all of the seat's roots in one cut). By AI agents, Wed Nov 11 2026. No macro, syntax, notation, axiom, sorry.
-/
import Derived.Test.Qxb6601220aChecked
import GoSem.Claim
import GoSem.ClaimJoined
import GoSem.ClaimMapViews
import Derived.JoinedTies
import Derived.KernelRfl
namespace Go.Proofs.Qxb6601220a
/- THE CELL 'sum', in the pinned program and in every row, IS THE sha256 OF THE DUMP (.gsa) THAT Qxb6601220aProg.lean LOADS. Nothing in Lean hashes anything: it is a label: what it is worth is what the hold of that sum in a sandbox is worth. -/
noncomputable def Try.pinned : Pinned := { name := "qxb6601220a", sum := "63c4c161c6b6c794903cbd5c44c369c67f71c41b6ab9cec531176709ee192d59", checked := Try.checked }
namespace Rows
def none {H : Type} : Left H := { results := [], args := [] }

/-- 'zzlaws_internal_chain_b1.FnUnitQuantityCaseTable': WHATEVER THE INPUT: true; the input reads as it did. -/
def fnUnitQuantityCaseTableSpec : ChangeSpec := { name := "fnUnitQuantityCaseTable", fn := fun _ => fun
  | [d] => { results := [.lit (.bool true)], args := [d] }
  | _ => none }
def fnUnitQuantityCaseTableRow : OpenClaim := { program := "qxb6601220a", sum := "63c4c161c6b6c794903cbd5c44c369c67f71c41b6ab9cec531176709ee192d59", func := "example.com/ledgerhall/ledgerhall/zzlaws_internal_chain_b1.FnUnitQuantityCaseTable", spec := "fnUnitQuantityCaseTable", apart := false }
def FnUnitQuantityCaseTableSaid : Prop := fnUnitQuantityCaseTableRow.holds Try.pinned (OpenSpec.ofChange fnUnitQuantityCaseTableSpec)

/-- ITS FALSE NEIGHBOUR: 'it returns false'. Refute it at one input. -/
def fnUnitQuantityCaseTableWrong : ChangeSpec := { name := "fnUnitQuantityCaseTable", fn := fun _ => fun
  | [d] => { results := [.lit (.bool false)], args := [d] }
  | _ => none }
def FnUnitQuantityCaseTableWrongFalsely : Prop := fnUnitQuantityCaseTableRow.holds Try.pinned (OpenSpec.ofChange fnUnitQuantityCaseTableWrong)

/-- 'zzlaws_internal_chain_b1.FnUnitQuantityCoarserIsMultipleOfFiner': WHATEVER THE INPUT: true; the input reads as it did. -/
def fnUnitQuantityCoarserIsMultipleOfFinerSpec : ChangeSpec := { name := "fnUnitQuantityCoarserIsMultipleOfFiner", fn := fun _ => fun
  | [d1, d2] => { results := [.lit (.bool true)], args := [d1, d2] }
  | _ => none }
def fnUnitQuantityCoarserIsMultipleOfFinerRow : OpenClaim := { program := "qxb6601220a", sum := "63c4c161c6b6c794903cbd5c44c369c67f71c41b6ab9cec531176709ee192d59", func := "example.com/ledgerhall/ledgerhall/zzlaws_internal_chain_b1.FnUnitQuantityCoarserIsMultipleOfFiner", spec := "fnUnitQuantityCoarserIsMultipleOfFiner", apart := false }
def FnUnitQuantityCoarserIsMultipleOfFinerSaid : Prop := fnUnitQuantityCoarserIsMultipleOfFinerRow.holds Try.pinned (OpenSpec.ofChange fnUnitQuantityCoarserIsMultipleOfFinerSpec)

/-- ITS FALSE NEIGHBOUR: 'it returns false'. Refute it at one input. -/
def fnUnitQuantityCoarserIsMultipleOfFinerWrong : ChangeSpec := { name := "fnUnitQuantityCoarserIsMultipleOfFiner", fn := fun _ => fun
  | [d1, d2] => { results := [.lit (.bool false)], args := [d1, d2] }
  | _ => none }
def FnUnitQuantityCoarserIsMultipleOfFinerWrongFalsely : Prop := fnUnitQuantityCoarserIsMultipleOfFinerRow.holds Try.pinned (OpenSpec.ofChange fnUnitQuantityCoarserIsMultipleOfFinerWrong)

/-- 'zzlaws_internal_chain_b1.FnValidNameMatchesDecodedSetModel': WHATEVER THE INPUT: true; the input reads as it did. -/
def fnValidNameMatchesDecodedSetModelSpec : ChangeSpec := { name := "fnValidNameMatchesDecodedSetModel", fn := fun _ => fun
  | [d1, d2, d3] => { results := [.lit (.bool true)], args := [d1, d2, d3] }
  | _ => none }
def fnValidNameMatchesDecodedSetModelRow : OpenClaim := { program := "qxb6601220a", sum := "63c4c161c6b6c794903cbd5c44c369c67f71c41b6ab9cec531176709ee192d59", func := "example.com/ledgerhall/ledgerhall/zzlaws_internal_chain_b1.FnValidNameMatchesDecodedSetModel", spec := "fnValidNameMatchesDecodedSetModel", inPlace := ["internal/bytealg.IndexByteString", "internal/bytealg.IndexString"], named := ["internal/bytealg.MaxLen"], apart := false }
def FnValidNameMatchesDecodedSetModelSaid : Prop := fnValidNameMatchesDecodedSetModelRow.holds Try.pinned (OpenSpec.ofChange fnValidNameMatchesDecodedSetModelSpec)

/-- ITS FALSE NEIGHBOUR: 'it returns false'. Refute it at one input. -/
def fnValidNameMatchesDecodedSetModelWrong : ChangeSpec := { name := "fnValidNameMatchesDecodedSetModel", fn := fun _ => fun
  | [d1, d2, d3] => { results := [.lit (.bool false)], args := [d1, d2, d3] }
  | _ => none }
def FnValidNameMatchesDecodedSetModelWrongFalsely : Prop := fnValidNameMatchesDecodedSetModelRow.holds Try.pinned (OpenSpec.ofChange fnValidNameMatchesDecodedSetModelWrong)

/-- 'zzlaws_internal_chain_b1.FnValidNameWideningKeepsAcceptance': WHATEVER THE INPUT: true; the input reads as it did. -/
def fnValidNameWideningKeepsAcceptanceSpec : ChangeSpec := { name := "fnValidNameWideningKeepsAcceptance", fn := fun _ => fun
  | [d1, d2, d3, d4, d5] => { results := [.lit (.bool true)], args := [d1, d2, d3, d4, d5] }
  | _ => none }
def fnValidNameWideningKeepsAcceptanceRow : OpenClaim := { program := "qxb6601220a", sum := "63c4c161c6b6c794903cbd5c44c369c67f71c41b6ab9cec531176709ee192d59", func := "example.com/ledgerhall/ledgerhall/zzlaws_internal_chain_b1.FnValidNameWideningKeepsAcceptance", spec := "fnValidNameWideningKeepsAcceptance", inPlace := ["internal/bytealg.IndexByteString", "internal/bytealg.IndexString"], named := ["internal/bytealg.MaxLen"], apart := false }
def FnValidNameWideningKeepsAcceptanceSaid : Prop := fnValidNameWideningKeepsAcceptanceRow.holds Try.pinned (OpenSpec.ofChange fnValidNameWideningKeepsAcceptanceSpec)

/-- ITS FALSE NEIGHBOUR: 'it returns false'. Refute it at one input. -/
def fnValidNameWideningKeepsAcceptanceWrong : ChangeSpec := { name := "fnValidNameWideningKeepsAcceptance", fn := fun _ => fun
  | [d1, d2, d3, d4, d5] => { results := [.lit (.bool false)], args := [d1, d2, d3, d4, d5] }
  | _ => none }
def FnValidNameWideningKeepsAcceptanceWrongFalsely : Prop := fnValidNameWideningKeepsAcceptanceRow.holds Try.pinned (OpenSpec.ofChange fnValidNameWideningKeepsAcceptanceWrong)

end Rows
end Go.Proofs.Qxb6601220a
