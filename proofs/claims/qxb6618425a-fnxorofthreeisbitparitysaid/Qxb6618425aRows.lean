/-
  No cell of these rows narrows 'for every input' (looked for: loops, veiled, ifaces, maps, wideKeys, modest, calm, conditions, laid).
  DERIVED. THE GIVEN ROWS OF THIS SEAT. 2 by the template 'for every input the law returns true; each argument reads behind the call as it read before'; 0 by the template 'total and deterministic' (their statements: Qxb6618425aTotals.lean).
  GIVEN WITH THE SEED: the statements are not yours to turn. If you find one false, say at which input.
  Laid BY PROGRAM, IN A SANDBOX (cutbox-rows.mjs): the forced cells as the released guide's own fill.sh prints them over the translation 16ab4a7e209138f2… (all of the seat's roots in one cut). By AI agents, Wed Nov 11 2026. No macro, syntax, notation, axiom, sorry.
-/
import Derived.Test.Qxb6618425aChecked
import GoSem.Claim
import GoSem.ClaimJoined
import GoSem.ClaimMapViews
import Derived.JoinedTies
import Derived.KernelRfl
namespace Go.Proofs.Qxb6618425a
/- THE CELL 'sum', in the pinned program and in every row, IS THE sha256 OF THE DUMP (.gsa) THAT Qxb6618425aProg.lean LOADS. Nothing in Lean hashes anything: it is a label: what it is worth is what the hold of that sum in a sandbox is worth. -/
noncomputable def Try.pinned : Pinned := { name := "qxb6618425a", sum := "16ab4a7e209138f27e4a86bc0f7e40455d3525c0c39873d43b979958adc679f4", checked := Try.checked }
namespace Rows
def none {H : Type} : Left H := { results := [], args := [] }

/-- 'zzlaws_root_b1.FnXorUndoesItselfAndAddsWithoutCarry': WHATEVER THE INPUT: true; the input reads as it did. -/
def fnXorUndoesItselfAndAddsWithoutCarrySpec : ChangeSpec := { name := "fnXorUndoesItselfAndAddsWithoutCarry", fn := fun _ => fun
  | [d1, d2] => { results := [.lit (.bool true)], args := [d1, d2] }
  | _ => none }
def fnXorUndoesItselfAndAddsWithoutCarryRow : OpenClaim := { program := "qxb6618425a", sum := "16ab4a7e209138f27e4a86bc0f7e40455d3525c0c39873d43b979958adc679f4", func := "example.com/xorstone/xorstone/zzlaws_root_b1.FnXorUndoesItselfAndAddsWithoutCarry", spec := "fnXorUndoesItselfAndAddsWithoutCarry", apart := false }
def FnXorUndoesItselfAndAddsWithoutCarrySaid : Prop := fnXorUndoesItselfAndAddsWithoutCarryRow.holds Try.pinned (OpenSpec.ofChange fnXorUndoesItselfAndAddsWithoutCarrySpec)

/-- ITS FALSE NEIGHBOUR: 'it returns false'. Refute it at one input. -/
def fnXorUndoesItselfAndAddsWithoutCarryWrong : ChangeSpec := { name := "fnXorUndoesItselfAndAddsWithoutCarry", fn := fun _ => fun
  | [d1, d2] => { results := [.lit (.bool false)], args := [d1, d2] }
  | _ => none }
def FnXorUndoesItselfAndAddsWithoutCarryWrongFalsely : Prop := fnXorUndoesItselfAndAddsWithoutCarryRow.holds Try.pinned (OpenSpec.ofChange fnXorUndoesItselfAndAddsWithoutCarryWrong)

/-- 'zzlaws_root_b1.FnXorOfThreeIsBitParity': WHATEVER THE INPUT: true; the input reads as it did. -/
def fnXorOfThreeIsBitParitySpec : ChangeSpec := { name := "fnXorOfThreeIsBitParity", fn := fun _ => fun
  | [d1, d2, d3] => { results := [.lit (.bool true)], args := [d1, d2, d3] }
  | _ => none }
def fnXorOfThreeIsBitParityRow : OpenClaim := { program := "qxb6618425a", sum := "16ab4a7e209138f27e4a86bc0f7e40455d3525c0c39873d43b979958adc679f4", func := "example.com/xorstone/xorstone/zzlaws_root_b1.FnXorOfThreeIsBitParity", spec := "fnXorOfThreeIsBitParity", apart := false }
def FnXorOfThreeIsBitParitySaid : Prop := fnXorOfThreeIsBitParityRow.holds Try.pinned (OpenSpec.ofChange fnXorOfThreeIsBitParitySpec)

/-- ITS FALSE NEIGHBOUR: 'it returns false'. Refute it at one input. -/
def fnXorOfThreeIsBitParityWrong : ChangeSpec := { name := "fnXorOfThreeIsBitParity", fn := fun _ => fun
  | [d1, d2, d3] => { results := [.lit (.bool false)], args := [d1, d2, d3] }
  | _ => none }
def FnXorOfThreeIsBitParityWrongFalsely : Prop := fnXorOfThreeIsBitParityRow.holds Try.pinned (OpenSpec.ofChange fnXorOfThreeIsBitParityWrong)

end Rows
end Go.Proofs.Qxb6618425a
