/-
  The walk of 'FnAgainstCaseTable' (3) and of its callees: the length gate (5), Failing (11), againstClass (8); Against (6) and againstTable (7) are entered in place.
-/
import Derived.Test.Qxb6604142aRows
import Derived.WalkKit
import Derived.ProofKit
namespace Go.Proofs.Qxb6604142a.ac
open Go.ChangeShapes Go.WideShapes Go.ChangeAt Go.RowKit
set_option linter.unusedVariables false

/-- 'passed', 'failed', 'broken'. -/
def passedB (s : ByteArray) : Bool := s.toList == [112, 97, 115, 115, 101, 100]
def failedB (s : ByteArray) : Bool := s.toList == [102, 97, 105, 108, 101, 100]
def brokenB (s : ByteArray) : Bool := s.toList == [98, 114, 111, 107, 101, 110]
/-- An attempt that failed. -/
def failB (s : ByteArray) : Bool := failedB s || brokenB s
/-- The number that the law's table gives a status. -/
def clsI (s : ByteArray) : Int := if passedB s then 0 else if failB s then 1 else 2

theorem fail_passed {s : ByteArray} (h : passedB s = true) : failB s = false := by
  have e : s.toList = [112, 97, 115, 115, 101, 100] := by simpa [passedB] using h
  simp [failB, failedB, brokenB, e]

theorem gate_yes (s t : ByteArray) (b : Bool) (w : World) (h : s.size + t.size ≤ 1048576) :
    Calls Try.prog 5 #[.string s, .string t, .bool b] w fun e w' => e = .returned (.bool true) ∧ w' = w := by
  go_enter Try.func5, Try.ntmps5
  go_wp2
  go_ret
  exact ⟨rfl, rfl⟩

theorem gate_no (s t : ByteArray) (b : Bool) (w : World) (hs : s.size ≤ 9223372036854775807) (ht : t.size ≤ 9223372036854775807) (h : 1048576 < s.size + t.size) :
    Calls Try.prog 5 #[.string s, .string t, .bool b] w fun e w' => e = .returned (.bool false) ∧ w' = w := by
  by_cases h1 : 1048576 < s.size
  · go_enter Try.func5, Try.ntmps5
    go_wp2
    go_ret
    exact ⟨rfl, rfl⟩
  · by_cases h2 : 1048576 < t.size
    · go_enter Try.func5, Try.ntmps5
      go_wp2
      go_ret
      exact ⟨rfl, rfl⟩
    · go_enter Try.func5, Try.ntmps5
      go_wp2
      go_ret
      exact ⟨rfl, rfl⟩

theorem ret_bool {a b : Bool} (h : a = b) : Ending.returned (.bool a) = .returned (.bool b) := by rw [h]
theorem ret_int {k : IntKind} {a b : Int} (h : a = b) : Ending.returned (.int k a) = .returned (.int k b) := by rw [h]

theorem fail_any (s : ByteArray) (w : World) :
    Calls Try.prog 11 #[.string s] w fun e w' => e = .returned (.bool (failB s)) ∧ w' = w := by
  cases h1 : s.toList == [102, 97, 105, 108, 101, 100]
  all_goals cases h2 : s.toList == [98, 114, 111, 107, 101, 110]
  all_goals
    go_enter Try.func11, Try.ntmps11
    go_wp2
    go_ret
    exact ⟨ret_bool (by simp [failB, failedB, brokenB, h1, h2]), rfl⟩

theorem cls_any (s : ByteArray) (w : World) :
    Calls Try.prog 8 #[.string s] w fun e w' => e = .returned (.int .i64 (clsI s)) ∧ w' = w := by
  cases h0 : s.toList == [112, 97, 115, 115, 101, 100]
  all_goals cases h1 : s.toList == [102, 97, 105, 108, 101, 100]
  all_goals cases h2 : s.toList == [98, 114, 111, 107, 101, 110]
  all_goals
    go_enter Try.func8, Try.ntmps8
    go_wp2
    go_ret
    exact ⟨ret_int (by simp [clsI, passedB, failB, failedB, brokenB, h0, h1, h2]), rfl⟩

theorem walk_long (s t : ByteArray) (b : Bool) (w : World) (hs : s.size ≤ 9223372036854775807) (ht : t.size ≤ 9223372036854775807) (h : 1048576 < s.size + t.size) :
    Calls Try.prog 3 #[.string s, .string t, .bool b] w fun e w' => e = .returned (.bool true) ∧ w' = w := by
  go_enter Try.func3, Try.ntmps3
  go_wp2_with (go_at_call 5; refine (gate_no _ _ _ _ hs ht h).mono ?_; rintro e w ⟨rfl, rfl⟩)
  go_ret
  exact ⟨rfl, rfl⟩

set_option maxHeartbeats 400000 in
theorem walk_out (s t : ByteArray) (w : World) (h : s.size + t.size ≤ 1048576) :
    Calls Try.prog 3 #[.string s, .string t, .bool false] w fun e w' => e = .returned (.bool true) ∧ w' = w := by
  go_enter Try.func3, Try.ntmps3
  go_wp2_with (first
    | (go_at_call 5; refine (gate_yes _ _ _ _ h).mono ?_; rintro e w ⟨rfl, rfl⟩)
    | go_in)
  go_ret
  exact ⟨rfl, rfl⟩

end Go.Proofs.Qxb6604142a.ac
