/-
  The walk of 'FnAgainstCaseTable' (3) where the base has the test: nine cases, three of the base by three of the run.
-/
import Derived.Test.Qxb6604142aAcA
namespace Go.Proofs.Qxb6604142a.ac
open Go.ChangeShapes Go.WideShapes Go.ChangeAt Go.RowKit
set_option linter.unusedVariables false

/-- A status is of one of three kinds. -/
theorem three (s : ByteArray) : (failB s = false ∧ clsI s = 0 ∧ (s.toList == [112, 97, 115, 115, 101, 100]) = true) ∨ (failB s = true ∧ clsI s = 1 ∧ (s.toList == [112, 97, 115, 115, 101, 100]) = false) ∨
    (failB s = false ∧ clsI s = 2 ∧ (s.toList == [112, 97, 115, 115, 101, 100]) = false) := by
  cases h : passedB s
  · have h' : (s.toList == [112, 97, 115, 115, 101, 100]) = false := h
    cases hf : failB s
    · exact .inr (.inr ⟨rfl, by simp [clsI, h, hf], h'⟩)
    · exact .inr (.inl ⟨rfl, by simp [clsI, h, hf], h'⟩)
  · exact .inl ⟨fail_passed h, by simp [clsI, h], h⟩

set_option maxHeartbeats 1000000 in
theorem walk_in (s t : ByteArray) (w : World) (h : s.size + t.size ≤ 1048576) :
    Calls Try.prog 3 #[.string s, .string t, .bool true] w fun e w' => e = .returned (.bool true) ∧ w' = w := by
  rcases three s with ⟨h1, h2, h3⟩ | ⟨h1, h2, h3⟩ | ⟨h1, h2, h3⟩
  all_goals rcases three t with ⟨g1, g2, g3⟩ | ⟨g1, g2, g3⟩ | ⟨g1, g2, g3⟩
  all_goals
    go_enter Try.func3, Try.ntmps3
    go_wp2_with (first
      | (go_at_call 5; refine (gate_yes _ _ _ _ h).mono ?_; rintro e w ⟨rfl, rfl⟩)
      | (go_at_call 11; refine (fail_any _ _).mono ?_; rintro e w ⟨rfl, rfl⟩)
      | (go_at_call 8; refine (cls_any _ _).mono ?_; rintro e w ⟨rfl, rfl⟩)
      | go_in)
    go_ret
    exact ⟨rfl, rfl⟩

end Go.Proofs.Qxb6604142a.ac
