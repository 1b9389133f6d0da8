/-
  No cell of these rows narrows 'for every input' (looked for: loops, veiled, ifaces, maps, wideKeys, modest, calm, conditions, laid).
  DERIVED. THE GIVEN ROWS OF THIS SEAT. 1 by the template 'for every input the law returns true; each argument reads behind the call as it read before'; 0 by the template 'total and deterministic' (their statements: Qxb6628175aTotals.lean).
  GIVEN WITH THE SEED: the statements are not yours to turn. If you find one false, say at which input.
  Laid BY PROGRAM, IN A SANDBOX (cutbox-rows.mjs): the forced cells as the released guide's own fill.sh prints them over the translation 6f4e67721265b6ef… (all of the seat's roots in one cut). By AI agents, Wed Nov 11 2026. No macro, syntax, notation, axiom, sorry.
-/
import Derived.Test.Qxb6628175aChecked
import GoSem.Claim
import GoSem.ClaimJoined
import GoSem.ClaimMapViews
import Derived.JoinedTies
import Derived.KernelRfl
namespace Go.Proofs.Qxb6628175a
/- THE CELL 'sum', in the pinned program and in every row, IS THE sha256 OF THE DUMP (.gsa) THAT Qxb6628175aProg.lean LOADS. Nothing in Lean hashes anything: it is a label: what it is worth is what the hold of that sum in a sandbox is worth. -/
noncomputable def Try.pinned : Pinned := { name := "qxb6628175a", sum := "6f4e67721265b6ef1a2bca8430864dd37bb9cfea2f3465c8cb6bff3aef155bf5", checked := Try.checked }
namespace Rows
def none {H : Type} : Left H := { results := [], args := [] }

/-- 'zzlaws_internal_overlay_b1.FnAddLinkScriptMatchesModel': WHATEVER THE INPUT: true; the input reads as it did. -/
def fnAddLinkScriptMatchesModelSpec : ChangeSpec := { name := "fnAddLinkScriptMatchesModel", fn := fun _ => fun
  | [d1, d2] => { results := [.lit (.bool true)], args := [d1, d2] }
  | _ => none }
def fnAddLinkScriptMatchesModelRow : OpenClaim := { program := "qxb6628175a", sum := "6f4e67721265b6ef1a2bca8430864dd37bb9cfea2f3465c8cb6bff3aef155bf5", func := "example.com/murmuration/murmuration/zzlaws_internal_overlay_b1.FnAddLinkScriptMatchesModel", spec := "fnAddLinkScriptMatchesModel", plainKeys := false, apart := false }
def FnAddLinkScriptMatchesModelSaid : Prop := fnAddLinkScriptMatchesModelRow.holds Try.pinned (OpenSpec.ofChange fnAddLinkScriptMatchesModelSpec)

/-- ITS FALSE NEIGHBOUR: 'it returns false'. Refute it at one input. -/
def fnAddLinkScriptMatchesModelWrong : ChangeSpec := { name := "fnAddLinkScriptMatchesModel", fn := fun _ => fun
  | [d1, d2] => { results := [.lit (.bool false)], args := [d1, d2] }
  | _ => none }
def FnAddLinkScriptMatchesModelWrongFalsely : Prop := fnAddLinkScriptMatchesModelRow.holds Try.pinned (OpenSpec.ofChange fnAddLinkScriptMatchesModelWrong)

end Rows
end Go.Proofs.Qxb6628175a
