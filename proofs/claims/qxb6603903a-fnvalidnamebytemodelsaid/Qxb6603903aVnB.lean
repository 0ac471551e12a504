/-
  The walk of FnValidNameByteModel (3).
-/
import Derived.Test.Qxb6603903aVnA
namespace Go.Proofs.Qxb6603903a.vn
open Go.ChangeShapes Go.WideShapes Go.ChangeAt Go.RowKit
set_option linter.unusedVariables false

/-- The iterator's block is no row of cells: nothing of it is frozen. -/
theorem frozen_iter (w : World) (s : ByteArray) (pos : Nat) (a : Addr) : (w.iter s pos).frozen? a = w.frozen? a := by
  by_cases h : a.block = w.heap.size
  · have e1 : (w.iter s pos).heap[a.block]? = some (.stringIter s pos) := by rw [h]; exact World.iter_heap w s pos
    have e2 : w.heap[a.block]? = none := by rw [h]; simp
    simp [World.frozen?, e1, e2]
  · have e1 : (w.iter s pos).heap[a.block]? = w.heap[a.block]? := by
      show (w.heap.push _)[a.block]? = _
      rw [Array.getElem?_push, if_neg h]
    simp [World.frozen?, e1]

theorem grown_iter (w : World) (s : ByteArray) (pos : Nat) : Grown w (w.iter s pos) :=
  ⟨World.keptBut_alloc w _ _, frozen_iter w s pos, by simp [World.iter]⟩

theorem zzvalid_any (s : ByteArray) (w : World) (hs : s.size ≤ 1048576) :
    Calls Try.prog 6 #[.string s] w fun e w' => e = .returned (.bool (okName s)) ∧ ∃ pos, w' = w.iter s pos := by
  go_enter Try.func6, Try.ntmps6
  go_wp2_with (go_at_call 7; refine (valid_any s _ hs).mono ?_; rintro e w' ⟨rfl, pos, rfl⟩)
  go_ret
  exact ⟨rfl, _, rfl⟩

theorem walk_long (s : ByteArray) (w : World) (h : 1048576 < s.size) :
    Calls Try.prog 3 #[.string s] w fun e w' => e = .returned (.bool true) ∧ Grown w w' := by
  go_enter Try.func3, Try.ntmps3
  go_wp2_with (go_at_call 4; refine (gate_no s _ h).mono ?_; rintro e w ⟨rfl, rfl⟩)
  go_ret
  exact ⟨rfl, Grown.refl _⟩

set_option maxHeartbeats 400000 in
theorem walk_short (s : ByteArray) (w : World) (h : s.size ≤ 1048576) :
    Calls Try.prog 3 #[.string s] w fun e w' => e = .returned (.bool true) ∧ Grown w w' := by
  go_enter Try.func3, Try.ntmps3
  go_wp2_with (go_at_call 4; refine (gate_yes s _ h).mono ?_; rintro e w ⟨rfl, rfl⟩)
  go_loop [3, 4] (fun b i => ∃ k : Nat, k ≤ s.size ∧ i = .int .i64 k ∧ b = .bool (decide (0 < s.size) && okTo s k)) (fun _ i => s.size - (intOf i).toNat)
  case atStart => exact ⟨0, Nat.zero_le _, rfl, by simp [okTo]⟩
  case round =>
    obtain ⟨k, hk, rfl, rfl⟩ := hrel
    by_cases hlt : k < s.size
    · cases hn : nameB (s[k].toNat : Int) with
      | true =>
        have HS : Hid (okTo s (k + 1) = okTo s k) := by
          show okTo s (k + 1) = okTo s k
          rw [okTo_succ s k hlt, hn, Bool.and_true]
        have HN : Hid (nameB (s[k].toNat : Int) = true) := hn
        clear hn
        go_wp2_with (go_at_call 5; refine (byte_yes _ _ HN.out).mono ?_; rintro e w' ⟨rfl, rfl⟩)
        go_round
        case rel => exact ⟨k + 1, by omega, by go_num, by rw [HS.out]⟩
        case measure => simp [intOf]; omega
      | false =>
        have HS : Hid (okTo s (k + 1) = false) := by
          show okTo s (k + 1) = false
          rw [okTo_succ s k hlt, hn, Bool.and_false]
        have HN : Hid (nameB (s[k].toNat : Int) = false) := hn
        clear hn
        go_wp2_with (go_at_call 5; refine (byte_no _ _ HN.out).mono ?_; rintro e w' ⟨rfl, rfl⟩)
        go_round
        case rel => exact ⟨k + 1, by omega, by go_num, by rw [HS.out, Bool.and_false]⟩
        case measure => simp [intOf]; omega
    · have HE : Hid ((decide (0 < s.size) && okTo s k) = okName s) := by
        obtain rfl : k = s.size := by omega
        rfl
      obtain ⟨b, hb⟩ : ∃ b, b = (decide (0 < s.size) && okTo s k) := ⟨_, rfl⟩
      rw [← hb]
      have HB : Hid (okName s = b) := by rw [hb]; exact HE.out.symm
      clear hb HE
      go_wp2_with (go_at_call 6; refine (zzvalid_any s _ h).mono ?_; rintro e w' ⟨rfl, pos, rfl⟩)
      go_ret
      refine ⟨?_, grown_iter _ s _⟩
      simp [HB.out]

end Go.Proofs.Qxb6603903a.vn
