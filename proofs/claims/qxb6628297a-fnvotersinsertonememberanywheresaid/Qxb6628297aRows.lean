/-
  No cell of these rows narrows 'for every input' (looked for: loops, veiled, ifaces, maps, wideKeys, modest, calm, conditions, laid).
  DERIVED. THE GIVEN ROWS OF THIS SEAT. 2 by the template 'for every input the law returns true; each argument reads behind the call as it read before'; 0 by the template 'total and deterministic' (their statements: Qxb6628297aTotals.lean).
  GIVEN WITH THE SEED: the statements are not yours to turn. If you find one false, say at which input.
  Laid BY PROGRAM, IN A SANDBOX (cutbox-rows.mjs): the forced cells as the released guide's own fill.sh prints them over the translation 6d8233838ed40f5d… (all of the seat's roots in one cut). By AI agents, Wed Nov 11 2026. No macro, syntax, notation, axiom, sorry.
-/
import Derived.Test.Qxb6628297aChecked
import GoSem.Claim
import GoSem.ClaimJoined
import GoSem.ClaimMapViews
import Derived.JoinedTies
import Derived.KernelRfl
namespace Go.Proofs.Qxb6628297a
/- THE CELL 'sum', in the pinned program and in every row, IS THE sha256 OF THE DUMP (.gsa) THAT Qxb6628297aProg.lean LOADS. Nothing in Lean hashes anything: it is a label: what it is worth is what the hold of that sum in a sandbox is worth. -/
noncomputable def Try.pinned : Pinned := { name := "qxb6628297a", sum := "6d8233838ed40f5d98558f190a0cbe38fe7ca3775f60c1e65e5f0890f4d42938", checked := Try.checked }
namespace Rows
def none {H : Type} : Left H := { results := [], args := [] }

/-- 'zzlaws_internal_paxos_b1.FnVotersSplitsAtAnyCut': WHATEVER THE INPUT: true; the input reads as it did. -/
def fnVotersSplitsAtAnyCutSpec : ChangeSpec := { name := "fnVotersSplitsAtAnyCut", fn := fun _ => fun
  | [d1, d2, d3, d4] => { results := [.lit (.bool true)], args := [d1, d2, d3, d4] }
  | _ => none }
def fnVotersSplitsAtAnyCutRow : OpenClaim := { program := "qxb6628297a", sum := "6d8233838ed40f5d98558f190a0cbe38fe7ca3775f60c1e65e5f0890f4d42938", func := "example.com/decreelog/decreelog/zzlaws_internal_paxos_b1.FnVotersSplitsAtAnyCut", spec := "fnVotersSplitsAtAnyCut", apart := false }
def FnVotersSplitsAtAnyCutSaid : Prop := fnVotersSplitsAtAnyCutRow.holds Try.pinned (OpenSpec.ofChange fnVotersSplitsAtAnyCutSpec)

/-- ITS FALSE NEIGHBOUR: 'it returns false'. Refute it at one input. -/
def fnVotersSplitsAtAnyCutWrong : ChangeSpec := { name := "fnVotersSplitsAtAnyCut", fn := fun _ => fun
  | [d1, d2, d3, d4] => { results := [.lit (.bool false)], args := [d1, d2, d3, d4] }
  | _ => none }
def FnVotersSplitsAtAnyCutWrongFalsely : Prop := fnVotersSplitsAtAnyCutRow.holds Try.pinned (OpenSpec.ofChange fnVotersSplitsAtAnyCutWrong)

/-- 'zzlaws_internal_paxos_b1.FnVotersInsertOneMemberAnywhere': WHATEVER THE INPUT: true; the input reads as it did. -/
def fnVotersInsertOneMemberAnywhereSpec : ChangeSpec := { name := "fnVotersInsertOneMemberAnywhere", fn := fun _ => fun
  | [d1, d2, d3, d4, d5] => { results := [.lit (.bool true)], args := [d1, d2, d3, d4, d5] }
  | _ => none }
def fnVotersInsertOneMemberAnywhereRow : OpenClaim := { program := "qxb6628297a", sum := "6d8233838ed40f5d98558f190a0cbe38fe7ca3775f60c1e65e5f0890f4d42938", func := "example.com/decreelog/decreelog/zzlaws_internal_paxos_b1.FnVotersInsertOneMemberAnywhere", spec := "fnVotersInsertOneMemberAnywhere", apart := false }
def FnVotersInsertOneMemberAnywhereSaid : Prop := fnVotersInsertOneMemberAnywhereRow.holds Try.pinned (OpenSpec.ofChange fnVotersInsertOneMemberAnywhereSpec)

/-- ITS FALSE NEIGHBOUR: 'it returns false'. Refute it at one input. -/
def fnVotersInsertOneMemberAnywhereWrong : ChangeSpec := { name := "fnVotersInsertOneMemberAnywhere", fn := fun _ => fun
  | [d1, d2, d3, d4, d5] => { results := [.lit (.bool false)], args := [d1, d2, d3, d4, d5] }
  | _ => none }
def FnVotersInsertOneMemberAnywhereWrongFalsely : Prop := fnVotersInsertOneMemberAnywhereRow.holds Try.pinned (OpenSpec.ofChange fnVotersInsertOneMemberAnywhereWrong)

end Rows
end Go.Proofs.Qxb6628297a
