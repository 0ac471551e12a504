/-
  The length gate (4), isDigit (10), digits (9), decimalAutomaton (6) out of a contract of decimalStep (8).
-/
import Derived.Test.Qxb6604232aRows
import Derived.Test.Qxb6604232aDaL
import Derived.WalkKit
import Derived.ProofKit
import Derived.Below
namespace Go.Proofs.Qxb6604232a.da
open Go.ChangeShapes Go.WideShapes Go.ChangeAt Go.RowKit
set_option linter.unusedVariables false

theorem ret_bool {a b : Bool} (h : a = b) : Ending.returned (.bool a) = .returned (.bool b) := by rw [h]
theorem ret_int {k : IntKind} {a b : Int} (h : a = b) : Ending.returned (.int k a) = .returned (.int k b) := by rw [h]

theorem gate_yes (s : ByteArray) (w : World) (h : s.size ≤ 1048576) :
    Calls Try.prog 4 #[.string s] w fun e w' => e = .returned (.bool true) ∧ w' = w := by
  go_enter Try.func4, Try.ntmps4
  go_wp2
  go_ret
  exact ⟨rfl, rfl⟩

theorem gate_no (s : ByteArray) (w : World) (h : 1048576 < s.size) :
    Calls Try.prog 4 #[.string s] w fun e w' => e = .returned (.bool false) ∧ w' = w := by
  go_enter Try.func4, Try.ntmps4
  go_wp2
  go_ret
  exact ⟨rfl, rfl⟩

theorem digit_yes (c : Int) (w : World) (h : digB c = true) :
    Calls Try.prog 10 #[.int .u8 c] w fun e w' => e = .returned (.bool true) ∧ w' = w := by
  have hp : 48 ≤ c ∧ c ≤ 57 := by simpa [digB] using h
  clear h
  obtain ⟨h1, h2⟩ := hp
  go_enter Try.func10, Try.ntmps10
  go_wp2
  go_ret
  exact ⟨rfl, rfl⟩

theorem digit_no (c : Int) (w : World) (h : digB c = false) :
    Calls Try.prog 10 #[.int .u8 c] w fun e w' => e = .returned (.bool false) ∧ w' = w := by
  have hp : c < 48 ∨ 57 < c := by
    have : ¬ (48 ≤ c ∧ c ≤ 57) := by simpa [digB] using h
    omega
  clear h
  rcases hp with h1 | h1
  all_goals
    go_enter Try.func10, Try.ntmps10
    go_wp2
    go_ret
    first
      | exact ⟨rfl, rfl⟩
      | exact ⟨ret_bool (by simp; omega), rfl⟩

set_option maxHeartbeats 400000 in
theorem digits_any (s : ByteArray) (i : Nat) (w : World) (hs : s.size ≤ 1048576) (hi : i ≤ s.size) :
    Calls Try.prog 9 #[.string s, .int .i64 i] w fun e w' => ∃ j : Nat, e = .returned (.tuple #[.int .i64 j, .bool (decide (i < j))]) ∧ i ≤ j ∧ j ≤ s.size ∧ Digits s i j ∧ ((h : j < s.size) → digB (s[j].toNat : Int) = false) ∧ w' = w := by
  go_enter Try.func9, Try.ntmps9
  go_wp2
  go_loop [1] (fun t => ∃ j : Nat, t = .int .i64 j ∧ i ≤ j ∧ j ≤ s.size ∧ Digits s i j) (fun t => s.size - (intOf t).toNat)
  case atStart => exact ⟨i, rfl, Nat.le_refl _, hi, fun k _ h1 h2 => absurd h1 (by omega)⟩
  case round =>
    obtain ⟨j, rfl, hij, hj, hd⟩ := hrel
    have HD : Hid (Digits s i j) := hd
    clear hd
    by_cases hlt : j < s.size
    · cases hn : digB (s[j].toNat : Int) with
      | true =>
        have HS : Hid (Digits s i (j + 1)) := fun k h h1 h2 => by
          by_cases hk : k = j
          · subst hk; exact hn
          · exact HD.out k h h1 (by omega)
        have HN : Hid (digB (s[j].toNat : Int) = true) := hn
        clear hn HD
        go_wp2_with (go_at_call 10; refine (digit_yes _ _ HN.out).mono ?_; rintro e w' ⟨rfl, rfl⟩)
        go_round
        case rel => exact ⟨j + 1, by go_num, by omega, by omega, HS.out⟩
        case measure => simp [intOf]; omega
      | false =>
        have HN : Hid (digB (s[j].toNat : Int) = false) := hn
        clear hn
        go_wp2_with (go_at_call 10; refine (digit_no _ _ HN.out).mono ?_; rintro e w' ⟨rfl, rfl⟩)
        go_ret2
        exact ⟨j, by simp, hij, hj, HD.out, fun _ => HN.out, rfl⟩
    · go_wp2
      go_ret2
      exact ⟨j, by simp, hij, hj, HD.out, fun h => absurd h hlt, rfl⟩

set_option maxHeartbeats 400000 in
theorem automaton_of (hstep : ∀ (st c : Int) (w : World), 0 ≤ st → st ≤ 8 → Calls Try.prog 8 #[.int .i64 st, .int .u8 c] w fun e w' => e = .returned (.int .i64 (stepI st c)) ∧ w' = w)
    (s : ByteArray) (w : World) (hs : s.size ≤ 1048576) :
    Calls Try.prog 6 #[.string s] w fun e w' => e = .returned (.bool (accB (R s s.size))) ∧ w' = w := by
  have HST : Hid (∀ (st c : Int) (w : World), 0 ≤ st → st ≤ 8 → Calls Try.prog 8 #[.int .i64 st, .int .u8 c] w fun e w' => e = .returned (.int .i64 (stepI st c)) ∧ w' = w) := hstep
  clear hstep
  go_enter Try.func6, Try.ntmps6
  go_wp2
  go_loop [3, 4] (fun t i => ∃ k : Nat, i = .int .i64 k ∧ k ≤ s.size ∧ t = .int .i64 (R s k)) (fun _ i => s.size - (intOf i).toNat)
  case atStart => exact ⟨0, rfl, Nat.zero_le _, rfl⟩
  case round =>
    obtain ⟨k, rfl, hk, rfl⟩ := hrel
    obtain ⟨q, hq⟩ : ∃ q, q = R s k := ⟨_, rfl⟩
    have hr := R_range s k hk
    rw [← hq] at hr
    obtain ⟨h0, h8⟩ := hr
    by_cases hlt : k < s.size
    · have HS : Hid (R s (k + 1) = stepI q (s[k].toNat : Int)) := by
        show R s (k + 1) = _
        rw [R_succ s k hlt, hq]
      rw [← hq]
      clear hq
      go_wp2_with (go_at_call 8; refine (HST.out _ _ _ h0 h8).mono ?_; rintro e w' ⟨rfl, rfl⟩)
      go_round
      case rel => exact ⟨k + 1, by go_num, by omega, by rw [HS.out]⟩
      case measure => simp [intOf]; omega
    · have HE : Hid (accB (R s s.size) = accB q) := by
        obtain rfl : k = s.size := by omega
        show accB (R s s.size) = accB q
        rw [hq]
      rw [← hq]
      clear hq HST
      have hc : q = 0 ∨ q = 1 ∨ q = 2 ∨ q = 3 ∨ q = 4 ∨ q = 5 ∨ q = 6 ∨ q = 7 ∨ q = 8 := by omega
      rcases hc with rfl | rfl | rfl | rfl | rfl | rfl | rfl | rfl | rfl
      all_goals
        go_wp2
        go_ret
        exact ⟨ret_bool (by rw [HE.out]; rfl), rfl⟩

end Go.Proofs.Qxb6604232a.da
