/-
  The callees of 'FnValidNameByteModel': the length gate (4), zzNameByteB1 (5), validName (7), ZZvalidName (6).
-/
import Derived.Test.Qxb6603903aRows
import Derived.WalkKit
import Derived.ProofKit
import Derived.Below
import Derived.Laws.RangeAny
namespace Go.Proofs.Qxb6603903a.vn
open Go.ChangeShapes Go.WideShapes Go.ChangeAt Go.RowKit
set_option linter.unusedVariables false

/-- A byte that a client's name may hold. -/
def nameB (c : Int) : Bool := decide (97 ≤ c ∧ c ≤ 122) || decide (65 ≤ c ∧ c ≤ 90) || decide (48 ≤ c ∧ c ≤ 57) || decide (c = 45) || decide (c = 95)

theorem nameB_iff (c : Int) : nameB c = true ↔ (97 ≤ c ∧ c ≤ 122) ∨ (65 ≤ c ∧ c ≤ 90) ∨ (48 ≤ c ∧ c ≤ 57) ∨ c = 45 ∨ c = 95 := by
  simp [nameB, or_assoc]

theorem gate_yes (s : ByteArray) (w : World) (h : s.size ≤ 1048576) :
    Calls Try.prog 4 #[.string s] w fun e w' => e = .returned (.bool true) ∧ w' = w := by
  go_enter Try.func4, Try.ntmps4
  go_wp2
  go_ret
  exact ⟨rfl, rfl⟩

theorem gate_no (s : ByteArray) (w : World) (h : 1048576 < s.size) :
    Calls Try.prog 4 #[.string s] w fun e w' => e = .returned (.bool false) ∧ w' = w := by
  go_enter Try.func4, Try.ntmps4
  go_wp2
  go_ret
  exact ⟨rfl, rfl⟩

theorem name_parts {c : Int} (h : nameB c = true) : (97 ≤ c ∧ c ≤ 122) ∨ (65 ≤ c ∧ c ≤ 90) ∨ (48 ≤ c ∧ c ≤ 57) ∨ (45 ≤ c ∧ c ≤ 45) ∨ (95 ≤ c ∧ c ≤ 95) := by
  have := (nameB_iff c).1 h
  omega

theorem other_parts {c : Int} (h : nameB c = false) : c < 45 ∨ (45 < c ∧ c < 48) ∨ (57 < c ∧ c < 65) ∨ (90 < c ∧ c < 95) ∨ (95 < c ∧ c < 97) ∨ 122 < c := by
  have := mt (nameB_iff c).2 (by simp [h])
  omega

theorem byte_yes (c : Int) (w : World) (h : nameB c = true) :
    Calls Try.prog 5 #[.int .u8 c] w fun e w' => e = .returned (.bool true) ∧ w' = w := by
  have hp := name_parts h
  clear h
  rcases hp with ⟨h1, h2⟩ | ⟨h1, h2⟩ | ⟨h1, h2⟩ | ⟨h1, h2⟩ | ⟨h1, h2⟩
  all_goals
    go_enter Try.func5, Try.ntmps5
    go_wp2
    go_ret
    exact ⟨rfl, rfl⟩

theorem byte_no (c : Int) (w : World) (h : nameB c = false) :
    Calls Try.prog 5 #[.int .u8 c] w fun e w' => e = .returned (.bool false) ∧ w' = w := by
  have hp := other_parts h
  clear h
  rcases hp with h1 | ⟨h1, h2⟩ | ⟨h1, h2⟩ | ⟨h1, h2⟩ | ⟨h1, h2⟩ | h1
  all_goals
    go_enter Try.func5, Try.ntmps5
    go_wp2
    go_ret
    exact ⟨rfl, rfl⟩

/-- Of the first n bytes each may stand in a name. -/
def okTo (s : ByteArray) (n : Nat) : Bool := (s.data.toList.take n).all fun b => nameB b.toNat
/-- What the law asks of a name. -/
def okName (s : ByteArray) : Bool := decide (0 < s.size) && okTo s s.size

theorem okTo_succ (s : ByteArray) (k : Nat) (h : k < s.size) : okTo s (k + 1) = (okTo s k && nameB (s[k].toNat : Int)) := by
  have e : s.data.toList.take (k + 1) = s.data.toList.take k ++ [s[k]] := by
    rw [List.take_succ_eq_append_getElem (by simpa using h)]; rfl
  simp [okTo, e, List.all_append]

theorem okTo_le (s : ByteArray) (k : Nat) (h : k < s.size) (hb : nameB (s[k].toNat : Int) = false) : okTo s s.size = false := by
  simp only [okTo, List.all_eq_false]
  refine ⟨s[k], ?_, by simp [hb]⟩
  rw [List.take_of_length_le (by simp)]
  exact Array.getElem_mem_toList h

theorem toList_len (s : ByteArray) : s.toList.length = s.size := by
  rw [show s.toList = s.data.toList from by rw [ByteArray.toList_eq]]
  rfl

theorem size_empty (s : ByteArray) : decide (0 < s.size) = !s.toList.isEmpty := by
  have e : s.toList.length = s.size := toList_len s
  cases h : s.toList with
  | nil => rw [h] at e; simp at e; simp [← e]
  | cons a l => rw [h] at e; simp at e; simp [← e]

set_option maxHeartbeats 1000000 in
theorem valid_any (s : ByteArray) (w : World) (hs : s.size ≤ 1048576) :
    Calls Try.prog 7 #[.string s] w fun e w' => e = .returned (.bool (okName s)) ∧ ∃ pos, w' = w.iter s pos := by
  go_enter Try.func7, Try.ntmps7
  go_wp2
  go_loopw [] (fun w' => ∃ pos : Nat, w' = w.iter s pos ∧ pos ≤ s.size ∧ okTo s pos = true) (fun w' => s.size - w'.iterPos w.heap.size)
  case atStart => exact ⟨0, rfl, Nat.zero_le _, rfl⟩
  case round =>
    obtain ⟨pos, rfl, hle, hall⟩ := hrel
    have HA : Hid (okTo s pos = true) := hall
    clear hall
    by_cases hp : pos < s.size
    · obtain ⟨c, hc⟩ : ∃ c : Int, c = (s[pos].toNat : Int) := ⟨_, rfl⟩
      by_cases hn : nameB c = true
      · have ha : (s[pos]'hp).toNat < 128 := by have := name_parts hn; omega
        have hnx : ∀ ty, (Instr.next (.pointer (some ⟨w.heap.size, 0, none⟩)) true ty).run Try.prog (w.iter s pos) = .ok (.tuple #[.bool true, .int .i64 pos, .int .i32 c]) (w.iter s (pos + 1)) := fun ty => by
          rw [hc]; exact run_next_ascii w s pos ty hp ha
        have HR : Hid (okTo s (pos + 1) = true) := by
          have := HA.out
          show okTo s (pos + 1) = true
          rw [okTo_succ s pos hp, this, ← hc, hn]; rfl
        have hparts := name_parts hn
        clear hn hc HA ha
        rcases hparts with ⟨h1, h2⟩ | ⟨h1, h2⟩ | ⟨h1, h2⟩ | ⟨h1, h2⟩ | ⟨h1, h2⟩
        · have e45 : (c == 45) = false := by simp; omega
          have e95 : (c == 95) = false := by simp; omega
          go_wp2
          refine ⟨⟨pos + 1, rfl, by omega, HR.out⟩, ?_⟩
          simp
          omega
        · have e45 : (c == 45) = false := by simp; omega
          have e95 : (c == 95) = false := by simp; omega
          go_wp2
          refine ⟨⟨pos + 1, rfl, by omega, HR.out⟩, ?_⟩
          simp
          omega
        · have e45 : (c == 45) = false := by simp; omega
          have e95 : (c == 95) = false := by simp; omega
          go_wp2
          refine ⟨⟨pos + 1, rfl, by omega, HR.out⟩, ?_⟩
          simp
          omega
        · obtain rfl : c = 45 := by omega
          go_wp2
          refine ⟨⟨pos + 1, rfl, by omega, HR.out⟩, ?_⟩
          simp
          omega
        · obtain rfl : c = 95 := by omega
          go_wp2
          refine ⟨⟨pos + 1, rfl, by omega, HR.out⟩, ?_⟩
          simp
          omega
      · have hn' : nameB c = false := by simpa using hn
        have HF : Hid (okName s = false) := by
          show okName s = false
          rw [okName, okTo_le s pos hp (by rw [← hc]; exact hn'), Bool.and_false]
        obtain ⟨r, k, hr, hnx⟩ : ∃ (r : Int) (k : Nat), nameB r = false ∧ ∀ ty, (Instr.next (.pointer (some ⟨w.heap.size, 0, none⟩)) true ty).run Try.prog (w.iter s pos) = .ok (.tuple #[.bool true, .int .i64 pos, .int .i32 r]) (w.iter s k) := by
          by_cases ha : (s[pos]'hp).toNat < 128
          · exact ⟨c, pos + 1, hn', fun ty => by rw [hc]; exact run_next_ascii w s pos ty hp ha⟩
          · refine ⟨((Utf8.decode s pos).1 : Int), _, ?_, fun ty => run_next_any w s pos ty hp⟩
            have := (decode_high s pos hp (by omega)).1
            rw [← Bool.not_eq_true, nameB_iff]
            omega
        have hparts := other_parts hr
        have e45 : (r == 45) = false := by simp; omega
        have e95 : (r == 95) = false := by simp; omega
        clear hn hn' hc HA hr
        rcases hparts with h1 | ⟨h1, h2⟩ | ⟨h1, h2⟩ | ⟨h1, h2⟩ | ⟨h1, h2⟩ | h1
        · go_wp2
          go_ret
          exact ⟨by rw [HF.out]; rfl, k, rfl⟩
        · go_wp2
          go_ret
          exact ⟨by rw [HF.out]; rfl, k, rfl⟩
        · have d57 : decide (r ≤ 57) = false := by simp; omega
          go_wp2
          go_ret
          exact ⟨by rw [HF.out]; rfl, k, rfl⟩
        · have d57 : decide (r ≤ 57) = false := by simp; omega
          have d90 : decide (r ≤ 90) = false := by simp; omega
          go_wp2
          go_ret
          exact ⟨by rw [HF.out]; rfl, k, rfl⟩
        · have d57 : decide (r ≤ 57) = false := by simp; omega
          have d90 : decide (r ≤ 90) = false := by simp; omega
          go_wp2
          go_ret
          exact ⟨by rw [HF.out]; rfl, k, rfl⟩
        · have d57 : decide (r ≤ 57) = false := by simp; omega
          have d90 : decide (r ≤ 90) = false := by simp; omega
          have d122 : decide (r ≤ 122) = false := by simp; omega
          go_wp2
          go_ret
          exact ⟨by rw [HF.out]; rfl, k, rfl⟩
    · have hnx : ∀ ty, (Instr.next (.pointer (some ⟨w.heap.size, 0, none⟩)) true ty).run Try.prog (w.iter s pos) = _ := fun ty => run_next_end w s pos ty hp
      have HF : Hid (okName s = !s.toList.isEmpty) := by
        obtain rfl : pos = s.size := by omega
        show okName s = !s.toList.isEmpty
        rw [okName, HA.out, Bool.and_true, size_empty]
      go_wp2
      go_ret
      exact ⟨by rw [HF.out]; rfl, pos, rfl⟩

end Go.Proofs.Qxb6603903a.vn
