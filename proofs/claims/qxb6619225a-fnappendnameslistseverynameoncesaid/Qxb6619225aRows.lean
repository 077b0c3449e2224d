/-
  NARROWER THAN 'FOR EVERY INPUT', by the rows' own cells (each row's printed sentence says how): FnAppendNamesListsEveryNameOnce: loops.
  DERIVED. THE GIVEN ROWS OF THIS SEAT. 4 by the template 'for every input the law returns true; each argument reads behind the call as it read before'; 0 by the template 'total and deterministic' (their statements: Qxb6619225aTotals.lean).
  GIVEN WITH THE SEED: the statements are not yours to turn. If you find one false, say at which input.
  Laid BY PROGRAM, IN A SANDBOX (cutbox-rows.mjs): the forced cells as the released guide's own fill.sh prints them over the translation cc5760a0cfdb8fa6… (all of the seat's roots in one cut). By AI agents, Wed Nov 11 2026. No macro, syntax, notation, axiom, sorry.
-/
import Derived.Test.Qxb6619225aChecked
import GoSem.Claim
import GoSem.ClaimJoined
import GoSem.ClaimMapViews
import Derived.JoinedTies
import Derived.KernelRfl
namespace Go.Proofs.Qxb6619225a
/- THE CELL 'sum', in the pinned program and in every row, IS THE sha256 OF THE DUMP (.gsa) THAT Qxb6619225aProg.lean LOADS. Nothing in Lean hashes anything: it is a label: what it is worth is what the hold of that sum in a sandbox is worth. -/
noncomputable def Try.pinned : Pinned := { name := "qxb6619225a", sum := "cc5760a0cfdb8fa6fbf0b50c9118216f3ce8c7746786231cdc9e20654a09a980", checked := Try.checked }
namespace Rows
def none {H : Type} : Left H := { results := [], args := [] }

/-- 'zzlaws_check_b1.FnEditDistanceIsShortestEditPath': WHATEVER THE INPUT: true; the input reads as it did. -/
def fnEditDistanceIsShortestEditPathSpec : ChangeSpec := { name := "fnEditDistanceIsShortestEditPath", fn := fun _ => fun
  | [d1, d2] => { results := [.lit (.bool true)], args := [d1, d2] }
  | _ => none }
def fnEditDistanceIsShortestEditPathRow : OpenClaim := { program := "qxb6619225a", sum := "cc5760a0cfdb8fa6fbf0b50c9118216f3ce8c7746786231cdc9e20654a09a980", func := "example.com/endpoint-contract/endpoint-contract/zzlaws_check_b1.FnEditDistanceIsShortestEditPath", spec := "fnEditDistanceIsShortestEditPath", apart := false }
def FnEditDistanceIsShortestEditPathSaid : Prop := fnEditDistanceIsShortestEditPathRow.holds Try.pinned (OpenSpec.ofChange fnEditDistanceIsShortestEditPathSpec)

/-- ITS FALSE NEIGHBOUR: 'it returns false'. Refute it at one input. -/
def fnEditDistanceIsShortestEditPathWrong : ChangeSpec := { name := "fnEditDistanceIsShortestEditPath", fn := fun _ => fun
  | [d1, d2] => { results := [.lit (.bool false)], args := [d1, d2] }
  | _ => none }
def FnEditDistanceIsShortestEditPathWrongFalsely : Prop := fnEditDistanceIsShortestEditPathRow.holds Try.pinned (OpenSpec.ofChange fnEditDistanceIsShortestEditPathWrong)

/-- 'zzlaws_check_b1.FnIsParamNameGrowsByOneByte': WHATEVER THE INPUT: true; the input reads as it did. -/
def fnIsParamNameGrowsByOneByteSpec : ChangeSpec := { name := "fnIsParamNameGrowsByOneByte", fn := fun _ => fun
  | [d1, d2] => { results := [.lit (.bool true)], args := [d1, d2] }
  | _ => none }
def fnIsParamNameGrowsByOneByteRow : OpenClaim := { program := "qxb6619225a", sum := "cc5760a0cfdb8fa6fbf0b50c9118216f3ce8c7746786231cdc9e20654a09a980", func := "example.com/endpoint-contract/endpoint-contract/zzlaws_check_b1.FnIsParamNameGrowsByOneByte", spec := "fnIsParamNameGrowsByOneByte", apart := false }
def FnIsParamNameGrowsByOneByteSaid : Prop := fnIsParamNameGrowsByOneByteRow.holds Try.pinned (OpenSpec.ofChange fnIsParamNameGrowsByOneByteSpec)

/-- ITS FALSE NEIGHBOUR: 'it returns false'. Refute it at one input. -/
def fnIsParamNameGrowsByOneByteWrong : ChangeSpec := { name := "fnIsParamNameGrowsByOneByte", fn := fun _ => fun
  | [d1, d2] => { results := [.lit (.bool false)], args := [d1, d2] }
  | _ => none }
def FnIsParamNameGrowsByOneByteWrongFalsely : Prop := fnIsParamNameGrowsByOneByteRow.holds Try.pinned (OpenSpec.ofChange fnIsParamNameGrowsByOneByteWrong)

/-- 'zzlaws_check_b1.FnEditDistanceOneEditAwayIsOne': WHATEVER THE INPUT: true; the input reads as it did. -/
def fnEditDistanceOneEditAwayIsOneSpec : ChangeSpec := { name := "fnEditDistanceOneEditAwayIsOne", fn := fun _ => fun
  | [d1, d2, d3] => { results := [.lit (.bool true)], args := [d1, d2, d3] }
  | _ => none }
def fnEditDistanceOneEditAwayIsOneRow : OpenClaim := { program := "qxb6619225a", sum := "cc5760a0cfdb8fa6fbf0b50c9118216f3ce8c7746786231cdc9e20654a09a980", func := "example.com/endpoint-contract/endpoint-contract/zzlaws_check_b1.FnEditDistanceOneEditAwayIsOne", spec := "fnEditDistanceOneEditAwayIsOne", apart := false }
def FnEditDistanceOneEditAwayIsOneSaid : Prop := fnEditDistanceOneEditAwayIsOneRow.holds Try.pinned (OpenSpec.ofChange fnEditDistanceOneEditAwayIsOneSpec)

/-- ITS FALSE NEIGHBOUR: 'it returns false'. Refute it at one input. -/
def fnEditDistanceOneEditAwayIsOneWrong : ChangeSpec := { name := "fnEditDistanceOneEditAwayIsOne", fn := fun _ => fun
  | [d1, d2, d3] => { results := [.lit (.bool false)], args := [d1, d2, d3] }
  | _ => none }
def FnEditDistanceOneEditAwayIsOneWrongFalsely : Prop := fnEditDistanceOneEditAwayIsOneRow.holds Try.pinned (OpenSpec.ofChange fnEditDistanceOneEditAwayIsOneWrong)

/-- 'zzlaws_check_b1.FnAppendNamesListsEveryNameOnce': WHATEVER THE INPUT: true; the input reads as it did. -/
def fnAppendNamesListsEveryNameOnceSpec : ChangeSpec := { name := "fnAppendNamesListsEveryNameOnce", fn := fun _ => fun
  | [d1, d2] => { results := [.lit (.bool true)], args := [d1, d2] }
  | _ => none }
def fnAppendNamesListsEveryNameOnceRow : OpenClaim := { program := "qxb6619225a", sum := "cc5760a0cfdb8fa6fbf0b50c9118216f3ce8c7746786231cdc9e20654a09a980", func := "example.com/endpoint-contract/endpoint-contract/zzlaws_check_b1.FnAppendNamesListsEveryNameOnce", spec := "fnAppendNamesListsEveryNameOnce", recurses := true, loops := true, apart := false }
def FnAppendNamesListsEveryNameOnceSaid : Prop := fnAppendNamesListsEveryNameOnceRow.holds Try.pinned (OpenSpec.ofChange fnAppendNamesListsEveryNameOnceSpec)

/-- ITS FALSE NEIGHBOUR: 'it returns false'. Refute it at one input. -/
def fnAppendNamesListsEveryNameOnceWrong : ChangeSpec := { name := "fnAppendNamesListsEveryNameOnce", fn := fun _ => fun
  | [d1, d2] => { results := [.lit (.bool false)], args := [d1, d2] }
  | _ => none }
def FnAppendNamesListsEveryNameOnceWrongFalsely : Prop := fnAppendNamesListsEveryNameOnceRow.holds Try.pinned (OpenSpec.ofChange fnAppendNamesListsEveryNameOnceWrong)

end Rows
end Go.Proofs.Qxb6619225a
