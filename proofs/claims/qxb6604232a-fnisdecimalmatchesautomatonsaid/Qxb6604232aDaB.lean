/-
  decimalStep (8): nine states by eight kinds of bytes.
-/
import Derived.Test.Qxb6604232aDaA
namespace Go.Proofs.Qxb6604232a.da
open Go.ChangeShapes Go.WideShapes Go.ChangeAt Go.RowKit
set_option linter.unusedVariables false

theorem nine {st : Int} (h0 : 0 ≤ st) (h8 : st ≤ 8) : st = 0 ∨ st = 1 ∨ st = 2 ∨ st = 3 ∨ st = 4 ∨ st = 5 ∨ st = 6 ∨ st = 7 ∨ st = 8 := by omega

set_option maxHeartbeats 2000000 in
theorem step_digit (st c : Int) (w : World) (h0 : 0 ≤ st) (h8 : st ≤ 8) (h1 : 48 ≤ c) (h2 : c ≤ 57) :
    Calls Try.prog 8 #[.int .i64 st, .int .u8 c] w fun e w' => e = .returned (.int .i64 (stepI st c)) ∧ w' = w := by
  have hd : Hid (digB c = true) := by show digB c = true; simp [digB]; omega
  have hg : Hid (sgnB c = false) := by show sgnB c = false; simp [sgnB]; omega
  have e43 : (c == 43) = false := by simp; omega
  have e45 : (c == 45) = false := by simp; omega
  have e46 : (c == 46) = false := by simp; omega
  have e69 : (c == 69) = false := by simp; omega
  have e101 : (c == 101) = false := by simp; omega
  rcases nine h0 h8 with rfl | rfl | rfl | rfl | rfl | rfl | rfl | rfl | rfl
  all_goals
    clear h0 h8
    go_enter Try.func8, Try.ntmps8
    go_wp2
    go_ret
    exact ⟨ret_int (by simp [stepI, hd.out, hg.out]), rfl⟩

set_option maxHeartbeats 2000000 in
theorem step_low (st c : Int) (w : World) (h0 : 0 ≤ st) (h8 : st ≤ 8) (h1 : c < 48) (e43 : (c == 43) = false) (e45 : (c == 45) = false) (e46 : (c == 46) = false) :
    Calls Try.prog 8 #[.int .i64 st, .int .u8 c] w fun e w' => e = .returned (.int .i64 (stepI st c)) ∧ w' = w := by
  have hd : Hid (digB c = false) := by show digB c = false; simp [digB]; omega
  have hg : Hid (sgnB c = false) := by show sgnB c = false; simp at e43 e45; simp [sgnB]; omega
  have hm : Hid (mrkB c = false) := by show mrkB c = false; simp [mrkB]; omega
  have hp : Hid (¬ c = 46) := by show ¬ c = 46; simpa using e46
  have e69 : (c == 69) = false := by simp; omega
  have e101 : (c == 101) = false := by simp; omega
  rcases nine h0 h8 with rfl | rfl | rfl | rfl | rfl | rfl | rfl | rfl | rfl
  all_goals
    clear h0 h8
    go_enter Try.func8, Try.ntmps8
    go_wp2
    go_ret
    exact ⟨ret_int (by simp [stepI, hd.out, hg.out, hm.out, hp.out]), rfl⟩

set_option maxHeartbeats 2000000 in
theorem step_high (st c : Int) (w : World) (h0 : 0 ≤ st) (h8 : st ≤ 8) (h1 : 57 < c) (e69 : (c == 69) = false) (e101 : (c == 101) = false) :
    Calls Try.prog 8 #[.int .i64 st, .int .u8 c] w fun e w' => e = .returned (.int .i64 (stepI st c)) ∧ w' = w := by
  have hd : Hid (digB c = false) := by show digB c = false; simp [digB]; omega
  have hg : Hid (sgnB c = false) := by show sgnB c = false; simp [sgnB]; omega
  have hm : Hid (mrkB c = false) := by show mrkB c = false; simp at e69 e101; simp [mrkB]; omega
  have hp : Hid (¬ c = 46) := by show ¬ c = 46; omega
  have e43 : (c == 43) = false := by simp; omega
  have e45 : (c == 45) = false := by simp; omega
  have e46 : (c == 46) = false := by simp; omega
  have d57 : decide (c ≤ 57) = false := by simp; omega
  rcases nine h0 h8 with rfl | rfl | rfl | rfl | rfl | rfl | rfl | rfl | rfl
  all_goals
    clear h0 h8
    go_enter Try.func8, Try.ntmps8
    go_wp2
    go_ret
    exact ⟨ret_int (by simp [stepI, hd.out, hg.out, hm.out, hp.out]), rfl⟩

end Go.Proofs.Qxb6604232a.da
