/-
  No cell of these rows narrows 'for every input' (looked for: loops, veiled, ifaces, maps, wideKeys, modest, calm, conditions, laid).
  DERIVED. THE GIVEN ROWS OF THIS SEAT. 1 by the template 'for every input the law returns true; each argument reads behind the call as it read before'; 0 by the template 'total and deterministic' (their statements: Qxb6618377aTotals.lean).
  GIVEN WITH THE SEED: the statements are not yours to turn. If you find one false, say at which input.
  Laid BY PROGRAM, IN A SANDBOX (cutbox-rows.mjs): the forced cells as the released guide's own fill.sh prints them over the translation b46938df5788e9c5… (all of the seat's roots in one cut). By AI agents, Wed Nov 11 2026. No macro, syntax, notation, axiom, sorry.
-/
import Derived.Test.Qxb6618377aChecked
import GoSem.Claim
import GoSem.ClaimJoined
import GoSem.ClaimMapViews
import Derived.JoinedTies
import Derived.KernelRfl
namespace Go.Proofs.Qxb6618377a
/- THE CELL 'sum', in the pinned program and in every row, IS THE sha256 OF THE DUMP (.gsa) THAT Qxb6618377aProg.lean LOADS. Nothing in Lean hashes anything: it is a label: what it is worth is what the hold of that sum in a sandbox is worth. -/
noncomputable def Try.pinned : Pinned := { name := "qxb6618377a", sum := "b46938df5788e9c560a89d4eebb2c8457335b7aa6599c7a4b1e441093ed6f491", checked := Try.checked }
namespace Rows
def none {H : Type} : Left H := { results := [], args := [] }

/-- 'zzlaws_internal_execfn_e1.FnTailBufferWriteChunkingKeepsLastBytes': WHATEVER THE INPUT: true; the input reads as it did. -/
def fnTailBufferWriteChunkingKeepsLastBytesSpec : ChangeSpec := { name := "fnTailBufferWriteChunkingKeepsLastBytes", fn := fun _ => fun
  | [d1, d2, d3] => { results := [.lit (.bool true)], args := [d1, d2, d3] }
  | _ => none }
def fnTailBufferWriteChunkingKeepsLastBytesRow : OpenClaim := { program := "qxb6618377a", sum := "b46938df5788e9c560a89d4eebb2c8457335b7aa6599c7a4b1e441093ed6f491", func := "example.com/ramify/ramify/zzlaws_internal_execfn_e1.FnTailBufferWriteChunkingKeepsLastBytes", spec := "fnTailBufferWriteChunkingKeepsLastBytes", apart := false }
def FnTailBufferWriteChunkingKeepsLastBytesSaid : Prop := fnTailBufferWriteChunkingKeepsLastBytesRow.holds Try.pinned (OpenSpec.ofChange fnTailBufferWriteChunkingKeepsLastBytesSpec)

/-- ITS FALSE NEIGHBOUR: 'it returns false'. Refute it at one input. -/
def fnTailBufferWriteChunkingKeepsLastBytesWrong : ChangeSpec := { name := "fnTailBufferWriteChunkingKeepsLastBytes", fn := fun _ => fun
  | [d1, d2, d3] => { results := [.lit (.bool false)], args := [d1, d2, d3] }
  | _ => none }
def FnTailBufferWriteChunkingKeepsLastBytesWrongFalsely : Prop := fnTailBufferWriteChunkingKeepsLastBytesRow.holds Try.pinned (OpenSpec.ofChange fnTailBufferWriteChunkingKeepsLastBytesWrong)

end Rows
end Go.Proofs.Qxb6618377a
