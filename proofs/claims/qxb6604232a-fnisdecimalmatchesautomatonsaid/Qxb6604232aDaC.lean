/-
  decimalStep (8) at the five single bytes; and in one form; the automaton (6).
-/
import Derived.Test.Qxb6604232aDaB
namespace Go.Proofs.Qxb6604232a.da
open Go.ChangeShapes Go.WideShapes Go.ChangeAt Go.RowKit
set_option linter.unusedVariables false

set_option maxHeartbeats 2000000 in
theorem step_43 (st : Int) (w : World) (h0 : 0 ≤ st) (h8 : st ≤ 8) :
    Calls Try.prog 8 #[.int .i64 st, .int .u8 43] w fun e w' => e = .returned (.int .i64 (stepI st 43)) ∧ w' = w := by
  rcases nine h0 h8 with rfl | rfl | rfl | rfl | rfl | rfl | rfl | rfl | rfl
  all_goals
    clear h0 h8
    go_enter Try.func8, Try.ntmps8
    go_wp2
    go_ret
    exact ⟨ret_int (by decide), rfl⟩

set_option maxHeartbeats 2000000 in
theorem step_45 (st : Int) (w : World) (h0 : 0 ≤ st) (h8 : st ≤ 8) :
    Calls Try.prog 8 #[.int .i64 st, .int .u8 45] w fun e w' => e = .returned (.int .i64 (stepI st 45)) ∧ w' = w := by
  rcases nine h0 h8 with rfl | rfl | rfl | rfl | rfl | rfl | rfl | rfl | rfl
  all_goals
    clear h0 h8
    go_enter Try.func8, Try.ntmps8
    go_wp2
    go_ret
    exact ⟨ret_int (by decide), rfl⟩

set_option maxHeartbeats 2000000 in
theorem step_46 (st : Int) (w : World) (h0 : 0 ≤ st) (h8 : st ≤ 8) :
    Calls Try.prog 8 #[.int .i64 st, .int .u8 46] w fun e w' => e = .returned (.int .i64 (stepI st 46)) ∧ w' = w := by
  rcases nine h0 h8 with rfl | rfl | rfl | rfl | rfl | rfl | rfl | rfl | rfl
  all_goals
    clear h0 h8
    go_enter Try.func8, Try.ntmps8
    go_wp2
    go_ret
    exact ⟨ret_int (by decide), rfl⟩

set_option maxHeartbeats 2000000 in
theorem step_69 (st : Int) (w : World) (h0 : 0 ≤ st) (h8 : st ≤ 8) :
    Calls Try.prog 8 #[.int .i64 st, .int .u8 69] w fun e w' => e = .returned (.int .i64 (stepI st 69)) ∧ w' = w := by
  rcases nine h0 h8 with rfl | rfl | rfl | rfl | rfl | rfl | rfl | rfl | rfl
  all_goals
    clear h0 h8
    go_enter Try.func8, Try.ntmps8
    go_wp2
    go_ret
    exact ⟨ret_int (by decide), rfl⟩

set_option maxHeartbeats 2000000 in
theorem step_101 (st : Int) (w : World) (h0 : 0 ≤ st) (h8 : st ≤ 8) :
    Calls Try.prog 8 #[.int .i64 st, .int .u8 101] w fun e w' => e = .returned (.int .i64 (stepI st 101)) ∧ w' = w := by
  rcases nine h0 h8 with rfl | rfl | rfl | rfl | rfl | rfl | rfl | rfl | rfl
  all_goals
    clear h0 h8
    go_enter Try.func8, Try.ntmps8
    go_wp2
    go_ret
    exact ⟨ret_int (by decide), rfl⟩

theorem step_any (st c : Int) (w : World) (h0 : 0 ≤ st) (h8 : st ≤ 8) :
    Calls Try.prog 8 #[.int .i64 st, .int .u8 c] w fun e w' => e = .returned (.int .i64 (stepI st c)) ∧ w' = w := by
  by_cases e43 : c = 43
  · subst e43; exact step_43 st w h0 h8
  by_cases e45 : c = 45
  · subst e45; exact step_45 st w h0 h8
  by_cases e46 : c = 46
  · subst e46; exact step_46 st w h0 h8
  by_cases e69 : c = 69
  · subst e69; exact step_69 st w h0 h8
  by_cases e101 : c = 101
  · subst e101; exact step_101 st w h0 h8
  by_cases h1 : c < 48
  · exact step_low st c w h0 h8 h1 (by simpa using e43) (by simpa using e45) (by simpa using e46)
  by_cases h2 : c ≤ 57
  · exact step_digit st c w h0 h8 (by omega) h2
  · exact step_high st c w h0 h8 (by omega) (by simpa using e69) (by simpa using e101)

theorem automaton_any (s : ByteArray) (w : World) (hs : s.size ≤ 1048576) :
    Calls Try.prog 6 #[.string s] w fun e w' => e = .returned (.bool (accB (R s s.size))) ∧ w' = w :=
  automaton_of step_any s w hs

end Go.Proofs.Qxb6604232a.da
