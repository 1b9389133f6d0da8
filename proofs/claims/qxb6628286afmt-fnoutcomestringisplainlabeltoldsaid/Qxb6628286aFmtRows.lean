/-
  No cell of these rows narrows 'for every input' (looked for: loops, veiled, ifaces, maps, wideKeys, modest, calm, conditions, laid).
  DERIVED. THE GIVEN ROWS OF THIS SEAT. 2 by the template 'for every input the law returns true; each argument reads behind the call as it read before'; 0 by the template 'total and deterministic' (their statements: Qxb6628286aFmtTotals.lean).
  GIVEN WITH THE SEED: the statements are not yours to turn. If you find one false, say at which input.
  Laid BY PROGRAM, IN A SANDBOX (cutbox-rows.mjs): the forced cells as the released guide's own fill.sh prints them over the translation b69fcc1fa28c24ff… (all of the seat's roots in one cut). By AI agents, Wed Nov 11 2026. No macro, syntax, notation, axiom, sorry.
-/
import Derived.Test.Qxb6628286aFmtChecked
import GoSem.Claim
import GoSem.ClaimJoined
import GoSem.ClaimMapViews
import Derived.JoinedTies
import Derived.KernelRfl
namespace Go.Proofs.Qxb6628286aFmt
/- THE CELL 'sum', in the pinned program and in every row, IS THE sha256 OF THE DUMP (.gsa) THAT Qxb6628286aFmtProg.lean LOADS. Nothing in Lean hashes anything: it is a label: what it is worth is what the hold of that sum in a sandbox is worth. -/
noncomputable def Tryf.pinned : Pinned := { name := "qxb6628286afmt", sum := "b69fcc1fa28c24ff0ca1a127946f687afd66f3ad3270ddf660af793a4e6237a6", checked := Tryf.checked }
namespace Rows
def none {H : Type} : Left H := { results := [], args := [] }

/-- 'zzlaws_root_b1.FnOutcomeStringTellsOutcomesApart': WHATEVER THE INPUT: true; the input reads as it did. -/
def fnOutcomeStringTellsOutcomesApartSpec : ChangeSpec := { name := "fnOutcomeStringTellsOutcomesApart", fn := fun _ => fun
  | [d1, d2] => { results := [.lit (.bool true)], args := [d1, d2] }
  | _ => none }
def fnOutcomeStringTellsOutcomesApartRow : OpenClaim := { program := "qxb6628286afmt", sum := "b69fcc1fa28c24ff0ca1a127946f687afd66f3ad3270ddf660af793a4e6237a6", func := "example.com/onceward/onceward/zzlaws_root_b1.FnOutcomeStringTellsOutcomesApart", spec := "fnOutcomeStringTellsOutcomesApart", stops := ["fmt.Sprintf"], inPlace := ["fmt.Sprintf"], apart := false }
/-- NO THEOREM (fmt's text is open here; it may be false): for the released tool's asking of the row's closed facts alone. THE STATEMENT IS 'FnOutcomeStringTellsOutcomesApartToldSaid' (Qxb6628286aFmtCards.lean). -/
def FnOutcomeStringTellsOutcomesApartFormAsk : Prop := fnOutcomeStringTellsOutcomesApartRow.holds Tryf.pinned (OpenSpec.ofChange fnOutcomeStringTellsOutcomesApartSpec)

/-- ITS FALSE NEIGHBOUR: 'it returns false'. Refute it at one input. -/
def fnOutcomeStringTellsOutcomesApartWrong : ChangeSpec := { name := "fnOutcomeStringTellsOutcomesApart", fn := fun _ => fun
  | [d1, d2] => { results := [.lit (.bool false)], args := [d1, d2] }
  | _ => none }
def FnOutcomeStringTellsOutcomesApartWrongFormAsk : Prop := fnOutcomeStringTellsOutcomesApartRow.holds Tryf.pinned (OpenSpec.ofChange fnOutcomeStringTellsOutcomesApartWrong)

/-- 'zzlaws_root_b1.FnOutcomeStringIsPlainLabel': WHATEVER THE INPUT: true; the input reads as it did. -/
def fnOutcomeStringIsPlainLabelSpec : ChangeSpec := { name := "fnOutcomeStringIsPlainLabel", fn := fun _ => fun
  | [d] => { results := [.lit (.bool true)], args := [d] }
  | _ => none }
def fnOutcomeStringIsPlainLabelRow : OpenClaim := { program := "qxb6628286afmt", sum := "b69fcc1fa28c24ff0ca1a127946f687afd66f3ad3270ddf660af793a4e6237a6", func := "example.com/onceward/onceward/zzlaws_root_b1.FnOutcomeStringIsPlainLabel", spec := "fnOutcomeStringIsPlainLabel", stops := ["fmt.Sprintf"], inPlace := ["fmt.Sprintf"], apart := false }
/-- NO THEOREM (fmt's text is open here; it may be false): for the released tool's asking of the row's closed facts alone. THE STATEMENT IS 'FnOutcomeStringIsPlainLabelToldSaid' (Qxb6628286aFmtCards.lean). -/
def FnOutcomeStringIsPlainLabelFormAsk : Prop := fnOutcomeStringIsPlainLabelRow.holds Tryf.pinned (OpenSpec.ofChange fnOutcomeStringIsPlainLabelSpec)

/-- ITS FALSE NEIGHBOUR: 'it returns false'. Refute it at one input. -/
def fnOutcomeStringIsPlainLabelWrong : ChangeSpec := { name := "fnOutcomeStringIsPlainLabel", fn := fun _ => fun
  | [d] => { results := [.lit (.bool false)], args := [d] }
  | _ => none }
def FnOutcomeStringIsPlainLabelWrongFormAsk : Prop := fnOutcomeStringIsPlainLabelRow.holds Tryf.pinned (OpenSpec.ofChange fnOutcomeStringIsPlainLabelWrong)

end Rows
end Go.Proofs.Qxb6628286aFmt
