/-
  ZZisDecimal (5) and the walk of FnIsDecimalMatchesAutomaton (3).
-/
import Derived.Test.Qxb6604232aDaD
namespace Go.Proofs.Qxb6604232a.da
open Go.ChangeShapes Go.WideShapes Go.ChangeAt Go.RowKit
set_option linter.unusedVariables false

theorem zz_any (s : ByteArray) (w : World) (hs : s.size ≤ 1048576) :
    Calls Try.prog 5 #[.string s] w fun e w' => e = .returned (.bool (accB (R s s.size))) ∧ w' = w := by
  go_enter Try.func5, Try.ntmps5
  go_wp2_with (go_at_call 7; refine (isDecimal_any s _ hs).mono ?_; rintro e w' ⟨rfl, rfl⟩)
  go_ret
  exact ⟨rfl, rfl⟩

theorem walk_long (s : ByteArray) (w : World) (h : 1048576 < s.size) :
    Calls Try.prog 3 #[.string s] w fun e w' => e = .returned (.bool true) ∧ w' = w := by
  go_enter Try.func3, Try.ntmps3
  go_wp2_with (go_at_call 4; refine (gate_no s _ h).mono ?_; rintro e w ⟨rfl, rfl⟩)
  go_ret
  exact ⟨rfl, rfl⟩

theorem walk_short (s : ByteArray) (w : World) (h : s.size ≤ 1048576) :
    Calls Try.prog 3 #[.string s] w fun e w' => e = .returned (.bool true) ∧ w' = w := by
  obtain ⟨B, hB⟩ : ∃ B, B = accB (R s s.size) := ⟨_, rfl⟩
  have h5 : ∀ w, Calls Try.prog 5 #[.string s] w fun e w' => e = .returned (.bool B) ∧ w' = w := fun w => by rw [hB]; exact zz_any s w h
  have h6 : ∀ w, Calls Try.prog 6 #[.string s] w fun e w' => e = .returned (.bool B) ∧ w' = w := fun w => by rw [hB]; exact automaton_any s w h
  have H5 : Hid (∀ w, Calls Try.prog 5 #[.string s] w fun e w' => e = .returned (.bool B) ∧ w' = w) := h5
  have H6 : Hid (∀ w, Calls Try.prog 6 #[.string s] w fun e w' => e = .returned (.bool B) ∧ w' = w) := h6
  clear h5 h6 hB
  go_enter Try.func3, Try.ntmps3
  go_wp2_with (first
    | (go_at_call 4; refine (gate_yes s _ h).mono ?_; rintro e w ⟨rfl, rfl⟩)
    | (go_at_call 5; refine (H5.out _).mono ?_; rintro e w ⟨rfl, rfl⟩)
    | (go_at_call 6; refine (H6.out _).mono ?_; rintro e w ⟨rfl, rfl⟩))
  go_ret
  exact ⟨ret_bool (by simp), rfl⟩

end Go.Proofs.Qxb6604232a.da
