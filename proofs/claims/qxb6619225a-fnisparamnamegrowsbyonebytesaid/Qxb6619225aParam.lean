/-
  The walks over the parameter names: isLetterByte, isTailByte, isASCIILetter, isParamName.
-/
import Derived.Test.Qxb6619225aRows
import Derived.Test.Qxb6619225aMem
import Derived.WalkKit
import Derived.Below
import Derived.BigQuiet
import Derived.StillTailTactics
import Derived.Laws.IdiomStrings
import Derived.Laws.Concat
import Derived.Great.BuildSlice
namespace Go.Proofs.Qxb6619225a

def letB (c : Int) : Bool := (decide (97 ≤ c) && decide (c ≤ 122)) || (decide (65 ≤ c) && decide (c ≤ 90))
def tailB (c : Int) : Bool := letB c || (decide (48 ≤ c) && decide (c ≤ 57)) || (decide (c = 95) || decide (c = 45))

theorem letter12 (c : Int) (w : World) : Calls Try.prog 12 #[.int .u8 c] w fun e w' => e = .returned (.bool (letB c)) ∧ w = w' := by
  by_cases h1 : 97 ≤ c <;> by_cases h2 : c ≤ 122 <;> by_cases h3 : 65 ≤ c <;> by_cases h4 : c ≤ 90 <;> (go_enter Try.func12, Try.ntmps12; go_wp2; go_ret; simp [letB, h1, h2, h3, h4])

theorem letter28 (c : Int) (w : World) : Calls Try.prog 28 #[.int .u8 c] w fun e w' => e = .returned (.bool (letB c)) ∧ w = w' := by
  by_cases h1 : 97 ≤ c <;> by_cases h2 : c ≤ 122 <;> by_cases h3 : 65 ≤ c <;> by_cases h4 : c ≤ 90 <;> (go_enter Try.func28, Try.ntmps28; go_wp2; go_ret; simp [letB, h1, h2, h3, h4])

set_option maxHeartbeats 1000000 in
theorem tail13 (c : Int) (w : World) : Calls Try.prog 13 #[.int .u8 c] w fun e w' => e = .returned (.bool (tailB c)) ∧ w = w' := by
  go_enter Try.func13, Try.ntmps13
  go_wp2_with fail
  refine (letter12 c _).mono ?_
  rintro e w' ⟨rfl, rfl⟩
  cases h : letB c with
  | true =>
    go_wp2
    go_ret
    simp [tailB, h]
  | false =>
    by_cases h1 : 48 ≤ c
    · by_cases h2 : c ≤ 57
      · go_wp2
        go_ret
        simp [tailB, h1, h2]
      · cases h3 : (c == 95)
        · cases h4 : (c == 45)
          · go_wp2
            go_ret
            have e3 : ¬ c = 95 := by simpa using h3
            have e4 : ¬ c = 45 := by simpa using h4
            simp [tailB, h, h2, e3, e4]
          · exfalso
            have : c = 45 := by simpa using h4
            omega
        · go_wp2
          go_ret
          have e3 : c = 95 := by simpa using h3
          simp [tailB, e3]
    · cases h3 : (c == 95)
      · cases h4 : (c == 45)
        · go_wp2
          go_ret
          have e3 : ¬ c = 95 := by simpa using h3
          have e4 : ¬ c = 45 := by simpa using h4
          simp [tailB, h, e3, e4]
          omega
        · go_wp2
          go_ret
          have e3 : c = 45 := by simpa using h4
          simp [tailB, e3]
      · exfalso
        have : c = 95 := by simpa using h3
        omega
end Go.Proofs.Qxb6619225a
