/-
  No cell of these rows narrows 'for every input' (looked for: loops, veiled, ifaces, maps, wideKeys, modest, calm, conditions, laid).
  DERIVED. THE GIVEN ROWS OF THIS SEAT. 2 by the template 'for every input the law returns true; each argument reads behind the call as it read before'; 0 by the template 'total and deterministic' (their statements: Qxb6627866aTotals.lean).
  GIVEN WITH THE SEED: the statements are not yours to turn. If you find one false, say at which input.
  Laid BY PROGRAM, IN A SANDBOX (cutbox-rows.mjs): the forced cells as the released guide's own fill.sh prints them over the translation 251dec8c716eb4a6… (all of the seat's roots in one cut). By AI agents, Wed Nov 11 2026. No macro, syntax, notation, axiom, sorry.
-/
import Derived.Test.Qxb6627866aChecked
import GoSem.Claim
import GoSem.ClaimJoined
import GoSem.ClaimMapViews
import Derived.JoinedTies
import Derived.KernelRfl
namespace Go.Proofs.Qxb6627866a
/- THE CELL 'sum', in the pinned program and in every row, IS THE sha256 OF THE DUMP (.gsa) THAT Qxb6627866aProg.lean LOADS. Nothing in Lean hashes anything: it is a label: what it is worth is what the hold of that sum in a sandbox is worth. -/
noncomputable def Try.pinned : Pinned := { name := "qxb6627866a", sum := "251dec8c716eb4a6e44d26d2adc997ef00ab7b5771a71f795a05867b9b0a2586", checked := Try.checked }
namespace Rows
def none {H : Type} : Left H := { results := [], args := [] }

/-- 'zzlaws_internal_quirks_b1.FnMostListensDecidedByItsFirstSixteenBytes': WHATEVER THE INPUT: true; the input reads as it did. -/
def fnMostListensDecidedByItsFirstSixteenBytesSpec : ChangeSpec := { name := "fnMostListensDecidedByItsFirstSixteenBytes", fn := fun _ => fun
  | [d1, d2] => { results := [.lit (.bool true)], args := [d1, d2] }
  | _ => none }
def fnMostListensDecidedByItsFirstSixteenBytesRow : OpenClaim := { program := "qxb6627866a", sum := "251dec8c716eb4a6e44d26d2adc997ef00ab7b5771a71f795a05867b9b0a2586", func := "example.com/jumpseat/jumpseat/zzlaws_internal_quirks_b1.FnMostListensDecidedByItsFirstSixteenBytes", spec := "fnMostListensDecidedByItsFirstSixteenBytes", apart := false }
def FnMostListensDecidedByItsFirstSixteenBytesSaid : Prop := fnMostListensDecidedByItsFirstSixteenBytesRow.holds Try.pinned (OpenSpec.ofChange fnMostListensDecidedByItsFirstSixteenBytesSpec)

/-- ITS FALSE NEIGHBOUR: 'it returns false'. Refute it at one input. -/
def fnMostListensDecidedByItsFirstSixteenBytesWrong : ChangeSpec := { name := "fnMostListensDecidedByItsFirstSixteenBytes", fn := fun _ => fun
  | [d1, d2] => { results := [.lit (.bool false)], args := [d1, d2] }
  | _ => none }
def FnMostListensDecidedByItsFirstSixteenBytesWrongFalsely : Prop := fnMostListensDecidedByItsFirstSixteenBytesRow.holds Try.pinned (OpenSpec.ofChange fnMostListensDecidedByItsFirstSixteenBytesWrong)

/-- 'zzlaws_internal_quirks_b1.FnMostListensRefusesEveryNearMissOfTheName': WHATEVER THE INPUT: true; the input reads as it did. -/
def fnMostListensRefusesEveryNearMissOfTheNameSpec : ChangeSpec := { name := "fnMostListensRefusesEveryNearMissOfTheName", fn := fun _ => fun
  | [d1, d2, d3] => { results := [.lit (.bool true)], args := [d1, d2, d3] }
  | _ => none }
def fnMostListensRefusesEveryNearMissOfTheNameRow : OpenClaim := { program := "qxb6627866a", sum := "251dec8c716eb4a6e44d26d2adc997ef00ab7b5771a71f795a05867b9b0a2586", func := "example.com/jumpseat/jumpseat/zzlaws_internal_quirks_b1.FnMostListensRefusesEveryNearMissOfTheName", spec := "fnMostListensRefusesEveryNearMissOfTheName", apart := false }
def FnMostListensRefusesEveryNearMissOfTheNameSaid : Prop := fnMostListensRefusesEveryNearMissOfTheNameRow.holds Try.pinned (OpenSpec.ofChange fnMostListensRefusesEveryNearMissOfTheNameSpec)

/-- ITS FALSE NEIGHBOUR: 'it returns false'. Refute it at one input. -/
def fnMostListensRefusesEveryNearMissOfTheNameWrong : ChangeSpec := { name := "fnMostListensRefusesEveryNearMissOfTheName", fn := fun _ => fun
  | [d1, d2, d3] => { results := [.lit (.bool false)], args := [d1, d2, d3] }
  | _ => none }
def FnMostListensRefusesEveryNearMissOfTheNameWrongFalsely : Prop := fnMostListensRefusesEveryNearMissOfTheNameRow.holds Try.pinned (OpenSpec.ofChange fnMostListensRefusesEveryNearMissOfTheNameWrong)

end Rows
end Go.Proofs.Qxb6627866a
