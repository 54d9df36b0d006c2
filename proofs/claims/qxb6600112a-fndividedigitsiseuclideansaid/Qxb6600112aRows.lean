/-
  No cell of these rows narrows 'for every input' (looked for: loops, veiled, ifaces, maps, wideKeys, modest, calm, conditions, laid).
  DERIVED. THE GIVEN ROWS OF THIS SEAT. 5 by the template 'for every input the law returns true; each argument reads behind the call as it read before'; 0 by the template 'total and deterministic' (their statements: Qxb6600112aTotals.lean).
  GIVEN WITH THE SEED: the statements are not yours to turn. If you find one false, say at which input.
  Laid BY PROGRAM, IN A SANDBOX (cutbox-rows.mjs): the forced cells as the released guide's own fill.sh prints them over the translation 436cb5091ecf2685… (all of the seat's roots in one cut). By AI agents, Wed Nov 11 2026. No macro, syntax, notation, axiom, sorry.
-/
import Derived.Test.Qxb6600112aChecked
import GoSem.Claim
import GoSem.ClaimJoined
import GoSem.ClaimMapViews
import Derived.JoinedTies
import Derived.KernelRfl
namespace Go.Proofs.Qxb6600112a
/- THE CELL 'sum', in the pinned program and in every row, IS THE sha256 OF THE DUMP (.gsa) THAT Qxb6600112aProg.lean LOADS. Nothing in Lean hashes anything: it is a label: what it is worth is what the hold of that sum in a sandbox is worth. -/
noncomputable def Try.pinned : Pinned := { name := "qxb6600112a", sum := "436cb5091ecf268569e1061d866c2c4721d90ec6b2c5ece14b5f138a63b801bc", checked := Try.checked }
namespace Rows
def none {H : Type} : Left H := { results := [], args := [] }

/-- 'zzlaws_rexx_b1.FnRoundKeepsOrderOfMagnitude': WHATEVER THE INPUT: true; the input reads as it did. -/
def fnRoundKeepsOrderOfMagnitudeSpec : ChangeSpec := { name := "fnRoundKeepsOrderOfMagnitude", fn := fun _ => fun
  | [d1, d2, d3, d4, d5, d6] => { results := [.lit (.bool true)], args := [d1, d2, d3, d4, d5, d6] }
  | _ => none }
def fnRoundKeepsOrderOfMagnitudeRow : OpenClaim := { program := "qxb6600112a", sum := "436cb5091ecf268569e1061d866c2c4721d90ec6b2c5ece14b5f138a63b801bc", func := "example.com/reshow/reshow/zzlaws_rexx_b1.FnRoundKeepsOrderOfMagnitude", spec := "fnRoundKeepsOrderOfMagnitude", apart := false }
def FnRoundKeepsOrderOfMagnitudeSaid : Prop := fnRoundKeepsOrderOfMagnitudeRow.holds Try.pinned (OpenSpec.ofChange fnRoundKeepsOrderOfMagnitudeSpec)

/-- ITS FALSE NEIGHBOUR: 'it returns false'. Refute it at one input. -/
def fnRoundKeepsOrderOfMagnitudeWrong : ChangeSpec := { name := "fnRoundKeepsOrderOfMagnitude", fn := fun _ => fun
  | [d1, d2, d3, d4, d5, d6] => { results := [.lit (.bool false)], args := [d1, d2, d3, d4, d5, d6] }
  | _ => none }
def FnRoundKeepsOrderOfMagnitudeWrongFalsely : Prop := fnRoundKeepsOrderOfMagnitudeRow.holds Try.pinned (OpenSpec.ofChange fnRoundKeepsOrderOfMagnitudeWrong)

/-- 'zzlaws_rexx_b1.FnDivideDigitsIsEuclidean': WHATEVER THE INPUT: true; the input reads as it did. -/
def fnDivideDigitsIsEuclideanSpec : ChangeSpec := { name := "fnDivideDigitsIsEuclidean", fn := fun _ => fun
  | [d1, d2] => { results := [.lit (.bool true)], args := [d1, d2] }
  | _ => none }
def fnDivideDigitsIsEuclideanRow : OpenClaim := { program := "qxb6600112a", sum := "436cb5091ecf268569e1061d866c2c4721d90ec6b2c5ece14b5f138a63b801bc", func := "example.com/reshow/reshow/zzlaws_rexx_b1.FnDivideDigitsIsEuclidean", spec := "fnDivideDigitsIsEuclidean", apart := false }
def FnDivideDigitsIsEuclideanSaid : Prop := fnDivideDigitsIsEuclideanRow.holds Try.pinned (OpenSpec.ofChange fnDivideDigitsIsEuclideanSpec)

/-- ITS FALSE NEIGHBOUR: 'it returns false'. Refute it at one input. -/
def fnDivideDigitsIsEuclideanWrong : ChangeSpec := { name := "fnDivideDigitsIsEuclidean", fn := fun _ => fun
  | [d1, d2] => { results := [.lit (.bool false)], args := [d1, d2] }
  | _ => none }
def FnDivideDigitsIsEuclideanWrongFalsely : Prop := fnDivideDigitsIsEuclideanRow.holds Try.pinned (OpenSpec.ofChange fnDivideDigitsIsEuclideanWrong)

/-- 'zzlaws_rexx_b1.FnDivideDigitsRecoversQuotientAndRemainder': WHATEVER THE INPUT: true; the input reads as it did. -/
def fnDivideDigitsRecoversQuotientAndRemainderSpec : ChangeSpec := { name := "fnDivideDigitsRecoversQuotientAndRemainder", fn := fun _ => fun
  | [d1, d2, d3] => { results := [.lit (.bool true)], args := [d1, d2, d3] }
  | _ => none }
def fnDivideDigitsRecoversQuotientAndRemainderRow : OpenClaim := { program := "qxb6600112a", sum := "436cb5091ecf268569e1061d866c2c4721d90ec6b2c5ece14b5f138a63b801bc", func := "example.com/reshow/reshow/zzlaws_rexx_b1.FnDivideDigitsRecoversQuotientAndRemainder", spec := "fnDivideDigitsRecoversQuotientAndRemainder", apart := false }
def FnDivideDigitsRecoversQuotientAndRemainderSaid : Prop := fnDivideDigitsRecoversQuotientAndRemainderRow.holds Try.pinned (OpenSpec.ofChange fnDivideDigitsRecoversQuotientAndRemainderSpec)

/-- ITS FALSE NEIGHBOUR: 'it returns false'. Refute it at one input. -/
def fnDivideDigitsRecoversQuotientAndRemainderWrong : ChangeSpec := { name := "fnDivideDigitsRecoversQuotientAndRemainder", fn := fun _ => fun
  | [d1, d2, d3] => { results := [.lit (.bool false)], args := [d1, d2, d3] }
  | _ => none }
def FnDivideDigitsRecoversQuotientAndRemainderWrongFalsely : Prop := fnDivideDigitsRecoversQuotientAndRemainderRow.holds Try.pinned (OpenSpec.ofChange fnDivideDigitsRecoversQuotientAndRemainderWrong)

/-- 'zzlaws_rexx_b1.FnPullTakesTopLine': WHATEVER THE INPUT: true; the input reads as it did. -/
def fnPullTakesTopLineSpec : ChangeSpec := { name := "fnPullTakesTopLine", fn := fun _ => fun
  | [d1, d2, d3] => { results := [.lit (.bool true)], args := [d1, d2, d3] }
  | _ => none }
def fnPullTakesTopLineRow : OpenClaim := { program := "qxb6600112a", sum := "436cb5091ecf268569e1061d866c2c4721d90ec6b2c5ece14b5f138a63b801bc", func := "example.com/reshow/reshow/zzlaws_rexx_b1.FnPullTakesTopLine", spec := "fnPullTakesTopLine", apart := false }
def FnPullTakesTopLineSaid : Prop := fnPullTakesTopLineRow.holds Try.pinned (OpenSpec.ofChange fnPullTakesTopLineSpec)

/-- ITS FALSE NEIGHBOUR: 'it returns false'. Refute it at one input. -/
def fnPullTakesTopLineWrong : ChangeSpec := { name := "fnPullTakesTopLine", fn := fun _ => fun
  | [d1, d2, d3] => { results := [.lit (.bool false)], args := [d1, d2, d3] }
  | _ => none }
def FnPullTakesTopLineWrongFalsely : Prop := fnPullTakesTopLineRow.holds Try.pinned (OpenSpec.ofChange fnPullTakesTopLineWrong)

/-- 'zzlaws_rexx_b1.FnPullDrainsInOrder': WHATEVER THE INPUT: true; the input reads as it did. -/
def fnPullDrainsInOrderSpec : ChangeSpec := { name := "fnPullDrainsInOrder", fn := fun _ => fun
  | [d1, d2, d3] => { results := [.lit (.bool true)], args := [d1, d2, d3] }
  | _ => none }
def fnPullDrainsInOrderRow : OpenClaim := { program := "qxb6600112a", sum := "436cb5091ecf268569e1061d866c2c4721d90ec6b2c5ece14b5f138a63b801bc", func := "example.com/reshow/reshow/zzlaws_rexx_b1.FnPullDrainsInOrder", spec := "fnPullDrainsInOrder", apart := false }
def FnPullDrainsInOrderSaid : Prop := fnPullDrainsInOrderRow.holds Try.pinned (OpenSpec.ofChange fnPullDrainsInOrderSpec)

/-- ITS FALSE NEIGHBOUR: 'it returns false'. Refute it at one input. -/
def fnPullDrainsInOrderWrong : ChangeSpec := { name := "fnPullDrainsInOrder", fn := fun _ => fun
  | [d1, d2, d3] => { results := [.lit (.bool false)], args := [d1, d2, d3] }
  | _ => none }
def FnPullDrainsInOrderWrongFalsely : Prop := fnPullDrainsInOrderRow.holds Try.pinned (OpenSpec.ofChange fnPullDrainsInOrderWrong)

end Rows
end Go.Proofs.Qxb6600112a
