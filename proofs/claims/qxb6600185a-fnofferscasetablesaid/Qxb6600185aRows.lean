/-
  No cell of these rows narrows 'for every input' (looked for: loops, veiled, ifaces, maps, wideKeys, modest, calm, conditions, laid).
  DERIVED. THE GIVEN ROWS OF THIS SEAT. 8 by the template 'for every input the law returns true; each argument reads behind the call as it read before'; 0 by the template 'total and deterministic' (their statements: Qxb6600185aTotals.lean).
  GIVEN WITH THE SEED: the statements are not yours to turn. If you find one false, say at which input.
  Laid BY PROGRAM, IN A SANDBOX (cutbox-rows.mjs): the forced cells as the released guide's own fill.sh prints them over the translation 4128c3ae41680007… (all of the seat's roots in one cut). By AI agents, Wed Nov 11 2026. No macro, syntax, notation, axiom, sorry.
-/
import Derived.Test.Qxb6600185aChecked
import GoSem.Claim
import GoSem.ClaimJoined
import GoSem.ClaimMapViews
import Derived.JoinedTies
import Derived.KernelRfl
namespace Go.Proofs.Qxb6600185a
/- THE CELL 'sum', in the pinned program and in every row, IS THE sha256 OF THE DUMP (.gsa) THAT Qxb6600185aProg.lean LOADS. Nothing in Lean hashes anything: it is a label: what it is worth is what the hold of that sum in a sandbox is worth. -/
noncomputable def Try.pinned : Pinned := { name := "qxb6600185a", sum := "4128c3ae41680007c474413fcba592fc4419503f798d4522485c9cafa14849fb", checked := Try.checked }
namespace Rows
def none {H : Type} : Left H := { results := [], args := [] }

/-- 'zzlaws_internal_ike_b1.FnOffersCaseTable': WHATEVER THE INPUT: true; the input reads as it did. -/
def fnOffersCaseTableSpec : ChangeSpec := { name := "fnOffersCaseTable", fn := fun _ => fun
  | [d1, d2, d3, d4] => { results := [.lit (.bool true)], args := [d1, d2, d3, d4] }
  | _ => none }
def fnOffersCaseTableRow : OpenClaim := { program := "qxb6600185a", sum := "4128c3ae41680007c474413fcba592fc4419503f798d4522485c9cafa14849fb", func := "example.com/parley/parley/zzlaws_internal_ike_b1.FnOffersCaseTable", spec := "fnOffersCaseTable", apart := false }
def FnOffersCaseTableSaid : Prop := fnOffersCaseTableRow.holds Try.pinned (OpenSpec.ofChange fnOffersCaseTableSpec)

/-- ITS FALSE NEIGHBOUR: 'it returns false'. Refute it at one input. -/
def fnOffersCaseTableWrong : ChangeSpec := { name := "fnOffersCaseTable", fn := fun _ => fun
  | [d1, d2, d3, d4] => { results := [.lit (.bool false)], args := [d1, d2, d3, d4] }
  | _ => none }
def FnOffersCaseTableWrongFalsely : Prop := fnOffersCaseTableRow.holds Try.pinned (OpenSpec.ofChange fnOffersCaseTableWrong)

/-- 'zzlaws_internal_ike_b1.FnOffersSelfAndImplicitNone': WHATEVER THE INPUT: true; the input reads as it did. -/
def fnOffersSelfAndImplicitNoneSpec : ChangeSpec := { name := "fnOffersSelfAndImplicitNone", fn := fun _ => fun
  | [d1, d2, d3, d4, d5] => { results := [.lit (.bool true)], args := [d1, d2, d3, d4, d5] }
  | _ => none }
def fnOffersSelfAndImplicitNoneRow : OpenClaim := { program := "qxb6600185a", sum := "4128c3ae41680007c474413fcba592fc4419503f798d4522485c9cafa14849fb", func := "example.com/parley/parley/zzlaws_internal_ike_b1.FnOffersSelfAndImplicitNone", spec := "fnOffersSelfAndImplicitNone", apart := false }
def FnOffersSelfAndImplicitNoneSaid : Prop := fnOffersSelfAndImplicitNoneRow.holds Try.pinned (OpenSpec.ofChange fnOffersSelfAndImplicitNoneSpec)

/-- ITS FALSE NEIGHBOUR: 'it returns false'. Refute it at one input. -/
def fnOffersSelfAndImplicitNoneWrong : ChangeSpec := { name := "fnOffersSelfAndImplicitNone", fn := fun _ => fun
  | [d1, d2, d3, d4, d5] => { results := [.lit (.bool false)], args := [d1, d2, d3, d4, d5] }
  | _ => none }
def FnOffersSelfAndImplicitNoneWrongFalsely : Prop := fnOffersSelfAndImplicitNoneRow.holds Try.pinned (OpenSpec.ofChange fnOffersSelfAndImplicitNoneWrong)

/-- 'zzlaws_internal_ike_b1.FnOffersBlindToOrderNumberSPI': WHATEVER THE INPUT: true; the input reads as it did. -/
def fnOffersBlindToOrderNumberSPISpec : ChangeSpec := { name := "fnOffersBlindToOrderNumberSPI", fn := fun _ => fun
  | [d1, d2, d3, d4, d5, d6, d7, d8] => { results := [.lit (.bool true)], args := [d1, d2, d3, d4, d5, d6, d7, d8] }
  | _ => none }
def fnOffersBlindToOrderNumberSPIRow : OpenClaim := { program := "qxb6600185a", sum := "4128c3ae41680007c474413fcba592fc4419503f798d4522485c9cafa14849fb", func := "example.com/parley/parley/zzlaws_internal_ike_b1.FnOffersBlindToOrderNumberSPI", spec := "fnOffersBlindToOrderNumberSPI", apart := false }
def FnOffersBlindToOrderNumberSPISaid : Prop := fnOffersBlindToOrderNumberSPIRow.holds Try.pinned (OpenSpec.ofChange fnOffersBlindToOrderNumberSPISpec)

/-- ITS FALSE NEIGHBOUR: 'it returns false'. Refute it at one input. -/
def fnOffersBlindToOrderNumberSPIWrong : ChangeSpec := { name := "fnOffersBlindToOrderNumberSPI", fn := fun _ => fun
  | [d1, d2, d3, d4, d5, d6, d7, d8] => { results := [.lit (.bool false)], args := [d1, d2, d3, d4, d5, d6, d7, d8] }
  | _ => none }
def FnOffersBlindToOrderNumberSPIWrongFalsely : Prop := fnOffersBlindToOrderNumberSPIRow.holds Try.pinned (OpenSpec.ofChange fnOffersBlindToOrderNumberSPIWrong)

/-- 'zzlaws_internal_ike_b1.FnSplitUnescapedLookBack': WHATEVER THE INPUT: true; the input reads as it did. -/
def fnSplitUnescapedLookBackSpec : ChangeSpec := { name := "fnSplitUnescapedLookBack", fn := fun _ => fun
  | [d1, d2] => { results := [.lit (.bool true)], args := [d1, d2] }
  | _ => none }
def fnSplitUnescapedLookBackRow : OpenClaim := { program := "qxb6600185a", sum := "4128c3ae41680007c474413fcba592fc4419503f798d4522485c9cafa14849fb", func := "example.com/parley/parley/zzlaws_internal_ike_b1.FnSplitUnescapedLookBack", spec := "fnSplitUnescapedLookBack", apart := false }
def FnSplitUnescapedLookBackSaid : Prop := fnSplitUnescapedLookBackRow.holds Try.pinned (OpenSpec.ofChange fnSplitUnescapedLookBackSpec)

/-- ITS FALSE NEIGHBOUR: 'it returns false'. Refute it at one input. -/
def fnSplitUnescapedLookBackWrong : ChangeSpec := { name := "fnSplitUnescapedLookBack", fn := fun _ => fun
  | [d1, d2] => { results := [.lit (.bool false)], args := [d1, d2] }
  | _ => none }
def FnSplitUnescapedLookBackWrongFalsely : Prop := fnSplitUnescapedLookBackRow.holds Try.pinned (OpenSpec.ofChange fnSplitUnescapedLookBackWrong)

/-- 'zzlaws_internal_ike_b1.FnSplitUnescapedJoinsBack': WHATEVER THE INPUT: true; the input reads as it did. -/
def fnSplitUnescapedJoinsBackSpec : ChangeSpec := { name := "fnSplitUnescapedJoinsBack", fn := fun _ => fun
  | [d1, d2] => { results := [.lit (.bool true)], args := [d1, d2] }
  | _ => none }
def fnSplitUnescapedJoinsBackRow : OpenClaim := { program := "qxb6600185a", sum := "4128c3ae41680007c474413fcba592fc4419503f798d4522485c9cafa14849fb", func := "example.com/parley/parley/zzlaws_internal_ike_b1.FnSplitUnescapedJoinsBack", spec := "fnSplitUnescapedJoinsBack", apart := false }
def FnSplitUnescapedJoinsBackSaid : Prop := fnSplitUnescapedJoinsBackRow.holds Try.pinned (OpenSpec.ofChange fnSplitUnescapedJoinsBackSpec)

/-- ITS FALSE NEIGHBOUR: 'it returns false'. Refute it at one input. -/
def fnSplitUnescapedJoinsBackWrong : ChangeSpec := { name := "fnSplitUnescapedJoinsBack", fn := fun _ => fun
  | [d1, d2] => { results := [.lit (.bool false)], args := [d1, d2] }
  | _ => none }
def FnSplitUnescapedJoinsBackWrongFalsely : Prop := fnSplitUnescapedJoinsBackRow.holds Try.pinned (OpenSpec.ofChange fnSplitUnescapedJoinsBackWrong)

/-- 'zzlaws_internal_ike_b1.FnEscapedJoinSplitsBack': WHATEVER THE INPUT: true; the input reads as it did. -/
def fnEscapedJoinSplitsBackSpec : ChangeSpec := { name := "fnEscapedJoinSplitsBack", fn := fun _ => fun
  | [d1, d2] => { results := [.lit (.bool true)], args := [d1, d2] }
  | _ => none }
def fnEscapedJoinSplitsBackRow : OpenClaim := { program := "qxb6600185a", sum := "4128c3ae41680007c474413fcba592fc4419503f798d4522485c9cafa14849fb", func := "example.com/parley/parley/zzlaws_internal_ike_b1.FnEscapedJoinSplitsBack", spec := "fnEscapedJoinSplitsBack", inPlace := ["internal/bytealg.IndexByteString", "internal/bytealg.IndexString", "internal/abi.NoEscape"], named := ["internal/bytealg.MaxLen"], apart := false }
def FnEscapedJoinSplitsBackSaid : Prop := fnEscapedJoinSplitsBackRow.holds Try.pinned (OpenSpec.ofChange fnEscapedJoinSplitsBackSpec)

/-- ITS FALSE NEIGHBOUR: 'it returns false'. Refute it at one input. -/
def fnEscapedJoinSplitsBackWrong : ChangeSpec := { name := "fnEscapedJoinSplitsBack", fn := fun _ => fun
  | [d1, d2] => { results := [.lit (.bool false)], args := [d1, d2] }
  | _ => none }
def FnEscapedJoinSplitsBackWrongFalsely : Prop := fnEscapedJoinSplitsBackRow.holds Try.pinned (OpenSpec.ofChange fnEscapedJoinSplitsBackWrong)

/-- 'zzlaws_internal_ike_b1.FnUnescapeInvertsEscape': WHATEVER THE INPUT: true; the input reads as it did. -/
def fnUnescapeInvertsEscapeSpec : ChangeSpec := { name := "fnUnescapeInvertsEscape", fn := fun _ => fun
  | [d1, d2] => { results := [.lit (.bool true)], args := [d1, d2] }
  | _ => none }
def fnUnescapeInvertsEscapeRow : OpenClaim := { program := "qxb6600185a", sum := "4128c3ae41680007c474413fcba592fc4419503f798d4522485c9cafa14849fb", func := "example.com/parley/parley/zzlaws_internal_ike_b1.FnUnescapeInvertsEscape", spec := "fnUnescapeInvertsEscape", inPlace := ["internal/bytealg.IndexByteString", "internal/bytealg.IndexString", "internal/abi.NoEscape"], named := ["internal/bytealg.MaxLen"], apart := false }
def FnUnescapeInvertsEscapeSaid : Prop := fnUnescapeInvertsEscapeRow.holds Try.pinned (OpenSpec.ofChange fnUnescapeInvertsEscapeSpec)

/-- ITS FALSE NEIGHBOUR: 'it returns false'. Refute it at one input. -/
def fnUnescapeInvertsEscapeWrong : ChangeSpec := { name := "fnUnescapeInvertsEscape", fn := fun _ => fun
  | [d1, d2] => { results := [.lit (.bool false)], args := [d1, d2] }
  | _ => none }
def FnUnescapeInvertsEscapeWrongFalsely : Prop := fnUnescapeInvertsEscapeRow.holds Try.pinned (OpenSpec.ofChange fnUnescapeInvertsEscapeWrong)

/-- 'zzlaws_internal_ike_b1.FnUnescapeLengthBounds': WHATEVER THE INPUT: true; the input reads as it did. -/
def fnUnescapeLengthBoundsSpec : ChangeSpec := { name := "fnUnescapeLengthBounds", fn := fun _ => fun
  | [d] => { results := [.lit (.bool true)], args := [d] }
  | _ => none }
def fnUnescapeLengthBoundsRow : OpenClaim := { program := "qxb6600185a", sum := "4128c3ae41680007c474413fcba592fc4419503f798d4522485c9cafa14849fb", func := "example.com/parley/parley/zzlaws_internal_ike_b1.FnUnescapeLengthBounds", spec := "fnUnescapeLengthBounds", inPlace := ["internal/bytealg.IndexByteString", "internal/bytealg.IndexString", "internal/abi.NoEscape"], named := ["internal/bytealg.MaxLen"], apart := false }
def FnUnescapeLengthBoundsSaid : Prop := fnUnescapeLengthBoundsRow.holds Try.pinned (OpenSpec.ofChange fnUnescapeLengthBoundsSpec)

/-- ITS FALSE NEIGHBOUR: 'it returns false'. Refute it at one input. -/
def fnUnescapeLengthBoundsWrong : ChangeSpec := { name := "fnUnescapeLengthBounds", fn := fun _ => fun
  | [d] => { results := [.lit (.bool false)], args := [d] }
  | _ => none }
def FnUnescapeLengthBoundsWrongFalsely : Prop := fnUnescapeLengthBoundsRow.holds Try.pinned (OpenSpec.ofChange fnUnescapeLengthBoundsWrong)

end Rows
end Go.Proofs.Qxb6600185a
