/-
  No cell of these rows narrows 'for every input' (looked for: loops, veiled, ifaces, maps, wideKeys, modest, calm, conditions, laid).
  DERIVED. THE GIVEN ROWS OF THIS SEAT. 1 by the template 'for every input the law returns true; each argument reads behind the call as it read before'; 0 by the template 'total and deterministic' (their statements: Qxb6618441aTotals.lean).
  GIVEN WITH THE SEED: the statements are not yours to turn. If you find one false, say at which input.
  Laid BY PROGRAM, IN A SANDBOX (cutbox-rows.mjs): the forced cells as the released guide's own fill.sh prints them over the translation 580e7a8a08e94ad3… (all of the seat's roots in one cut). By AI agents, Wed Nov 11 2026. No macro, syntax, notation, axiom, sorry.
-/
import Derived.Test.Qxb6618441aChecked
import GoSem.Claim
import GoSem.ClaimJoined
import GoSem.ClaimMapViews
import Derived.JoinedTies
import Derived.KernelRfl
namespace Go.Proofs.Qxb6618441a
/- THE CELL 'sum', in the pinned program and in every row, IS THE sha256 OF THE DUMP (.gsa) THAT Qxb6618441aProg.lean LOADS. Nothing in Lean hashes anything: it is a label: what it is worth is what the hold of that sum in a sandbox is worth. -/
noncomputable def Try.pinned : Pinned := { name := "qxb6618441a", sum := "580e7a8a08e94ad394d9cdff5ac26dd947bff0dff9806ef36013902f8aea2c62", checked := Try.checked }
namespace Rows
def none {H : Type} : Left H := { results := [], args := [] }

/-- 'zzlaws_internal_sim_b1.FnEndedFirstReportWinsOverScript': WHATEVER THE INPUT: true; the input reads as it did. -/
def fnEndedFirstReportWinsOverScriptSpec : ChangeSpec := { name := "fnEndedFirstReportWinsOverScript", fn := fun _ => fun
  | [d1, d2, d3, d4] => { results := [.lit (.bool true)], args := [d1, d2, d3, d4] }
  | _ => none }
def fnEndedFirstReportWinsOverScriptRow : OpenClaim := { program := "qxb6618441a", sum := "580e7a8a08e94ad394d9cdff5ac26dd947bff0dff9806ef36013902f8aea2c62", func := "example.com/evenkeel/evenkeel/zzlaws_internal_sim_b1.FnEndedFirstReportWinsOverScript", spec := "fnEndedFirstReportWinsOverScript", apart := false }
def FnEndedFirstReportWinsOverScriptSaid : Prop := fnEndedFirstReportWinsOverScriptRow.holds Try.pinned (OpenSpec.ofChange fnEndedFirstReportWinsOverScriptSpec)

/-- ITS FALSE NEIGHBOUR: 'it returns false'. Refute it at one input. -/
def fnEndedFirstReportWinsOverScriptWrong : ChangeSpec := { name := "fnEndedFirstReportWinsOverScript", fn := fun _ => fun
  | [d1, d2, d3, d4] => { results := [.lit (.bool false)], args := [d1, d2, d3, d4] }
  | _ => none }
def FnEndedFirstReportWinsOverScriptWrongFalsely : Prop := fnEndedFirstReportWinsOverScriptRow.holds Try.pinned (OpenSpec.ofChange fnEndedFirstReportWinsOverScriptWrong)

end Rows
end Go.Proofs.Qxb6618441a
