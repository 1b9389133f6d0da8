/-
  DERIVED. GIVEN WITH THE SEED: THE CARDS: each row of Qxb6628286aFmtRows.lean that lists a variable, with what it lists TIED to the program's text (the seventh form; the later family's looks); each row that meets fmt, with fmt's text TOLD by the authors' own Lean function (tested against real Go, not proved from fmt's source: count such statements apart). THE CARD IS WHAT COUNTS. Prove the row's statement (the work); the ties are given (Qxb6628286aFmtTie.lean); close each card by the builder's one call (the guide's Derived/Test/ToyasCard.lean, 'card_holds'). Laid BY PROGRAM, IN A SANDBOX (cutbox-door.mjs). By AI agents, Wed Nov 11 2026. No macro, syntax, notation, axiom, sorry.
-/
import Derived.Test.Qxb6628286aFmtRows
import GoSem.ClaimSeven
namespace Go.Proofs.Qxb6628286aFmt
namespace Rows

/-- THE TOLD CARD OF 'zzlaws_root_b1.FnOutcomeStringTellsOutcomesApart'. -/
def fnOutcomeStringTellsOutcomesApartCard : Claim7 := { stood := { row := fnOutcomeStringTellsOutcomesApartRow, standIns := [], harness := (true, "6ad846e494d2356ee5eb7a3f55d26aed87bb141a675f45e861e9b70019a6aa83"), looks := false }, told := true, goes := false }
def FnOutcomeStringTellsOutcomesApartToldSaid : Prop := Claim7.holds Tryf.pinned (.plain (OpenSpec.ofChange fnOutcomeStringTellsOutcomesApartSpec)) fnOutcomeStringTellsOutcomesApartCard
/-- ITS FALSE NEIGHBOUR. Refute it at one input. -/
def FnOutcomeStringTellsOutcomesApartToldWrongFalsely : Prop := Claim7.holds Tryf.pinned (.plain (OpenSpec.ofChange fnOutcomeStringTellsOutcomesApartWrong)) fnOutcomeStringTellsOutcomesApartCard

/-- THE TOLD CARD OF 'zzlaws_root_b1.FnOutcomeStringIsPlainLabel'. -/
def fnOutcomeStringIsPlainLabelCard : Claim7 := { stood := { row := fnOutcomeStringIsPlainLabelRow, standIns := [], harness := (true, "6ad846e494d2356ee5eb7a3f55d26aed87bb141a675f45e861e9b70019a6aa83"), looks := false }, told := true, goes := false }
def FnOutcomeStringIsPlainLabelToldSaid : Prop := Claim7.holds Tryf.pinned (.plain (OpenSpec.ofChange fnOutcomeStringIsPlainLabelSpec)) fnOutcomeStringIsPlainLabelCard
/-- ITS FALSE NEIGHBOUR. Refute it at one input. -/
def FnOutcomeStringIsPlainLabelToldWrongFalsely : Prop := Claim7.holds Tryf.pinned (.plain (OpenSpec.ofChange fnOutcomeStringIsPlainLabelWrong)) fnOutcomeStringIsPlainLabelCard
end Rows
end Go.Proofs.Qxb6628286aFmt
