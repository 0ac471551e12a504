/-
  isDecimal (7): cut at each test and behind each 'if'.
-/
import Derived.Test.Qxb6604232aDaC
import Derived.Deep.CutRange
namespace Go.Proofs.Qxb6604232a.da
open Go.ChangeShapes Go.WideShapes Go.ChangeAt Go.RowKit
set_option linter.unusedVariables false

/-- The byte at k, where there is one, is of the kind f. -/
def atB (f : Int → Bool) (s : ByteArray) (k : Nat) : Bool := if h : k < s.size then f (s[k].toNat : Int) else false
theorem atB_pos {f : Int → Bool} {s : ByteArray} {k : Nat} (h : k < s.size) : atB f s k = f (s[k].toNat : Int) := by simp [atB, h]
theorem atB_neg {f : Int → Bool} {s : ByteArray} {k : Nat} (h : ¬ k < s.size) : atB f s k = false := by simp [atB, h]
theorem atB_true {f : Int → Bool} {s : ByteArray} {k : Nat} (h : atB f s k = true) : ∃ h : k < s.size, f (s[k].toNat : Int) = true := by
  by_cases hl : k < s.size
  · exact ⟨hl, by rwa [atB_pos hl] at h⟩
  · rw [atB_neg hl] at h; cases h
theorem atB_false {f : Int → Bool} {s : ByteArray} {k : Nat} (h : atB f s k = false) : (h : k < s.size) → f (s[k].toNat : Int) = false := fun hl => by rwa [atB_pos hl] at h
theorem sgn_hit {c : Int} (h : c = 43) : true = sgnB c := by simp [sgnB, h]
theorem sgn_rest {c : Int} (h : ¬ c = 43) : (c == 43 || c == 45) = sgnB c := by
  by_cases h2 : c = 45 <;> simp [sgnB, h, h2]
theorem mrk_hit {c : Int} (h : c = 101) : true = mrkB c := by simp [mrkB, h]
theorem mrk_rest {c : Int} (h : ¬ c = 101) : (c == 101 || c == 69) = mrkB c := by
  by_cases h2 : c = 69 <;> simp [mrkB, h, h2]
def dotB (c : Int) : Bool := decide (c = 46)

theorem dot_same (c : Int) : (c == 46) = dotB c := by
  by_cases h : c = 46 <;> simp [dotB, h]

theorem digits_at (s : ByteArray) (x : Int) (i : Nat) (w : World) (hx : x = (i : Int)) (hs : s.size ≤ 1048576) (hi : i ≤ s.size) :
    Calls Try.prog 9 #[.string s, .int .i64 x] w fun e w' => ∃ j : Nat, e = .returned (.tuple #[.int .i64 j, .bool (decide (i < j))]) ∧ i ≤ j ∧ j ≤ s.size ∧ Digits s i j ∧ ((h : j < s.size) → digB (s[j].toNat : Int) = false) ∧ w' = w := by
  subst hx
  exact digits_any s i w hs hi

set_option maxHeartbeats 2000000 in
theorem isDecimal_any (s : ByteArray) (w : World) (hs : s.size ≤ 1048576) :
    Calls Try.prog 7 #[.string s] w fun e w' => e = .returned (.bool (accB (R s s.size))) ∧ w' = w := by
  obtain ⟨B, hB⟩ : ∃ B, B = accB (R s s.size) := ⟨_, rfl⟩
  have HB : Hid (B = accB (R s s.size)) := hB
  rw [← hB]
  clear hB
  go_enter Try.func7, Try.ntmps7
  go_upto_region 2 with fail
  go_cut [20] from 5 to 20 (fun t wx => t = .bool (atB sgnB s 0) ∧ wx = w)
  case first =>
    by_cases hlt : 0 < s.size
    · go_wp2
      all_goals
        go_meet
        case rel => exact ⟨congrArg Value.bool (by rw [atB_pos hlt]; first | exact sgn_hit (by assumption) | exact sgn_rest (by assumption)), rfl⟩
    · go_wp2
      go_meet
      case rel => exact ⟨congrArg Value.bool (by rw [atB_neg hlt]), rfl⟩
  case rest =>
    obtain ⟨rfl, rfl⟩ := hcut
    go_upto_if 20 with fail
    go_cut [3] from 20 to 22 (fun t wx => (∃ k : Nat, t = .int .i64 k ∧ AtA s k) ∧ wx = wc)
    case first =>
      cases hb : atB sgnB s 0 with
      | true =>
        go_wp2
        go_meet
        case rel =>
          obtain ⟨hlt, hc⟩ := atB_true hb
          exact ⟨⟨1, rfl, a_sign s hlt hc⟩, rfl⟩
      | false =>
        go_wp2
        go_meet
        case rel => exact ⟨⟨0, rfl, a_none s (atB_false hb)⟩, rfl⟩
    case rest =>
      obtain ⟨⟨k, rfl, hk⟩, rfl⟩ := hcut
      have HK : Hid (AtA s k) := hk
      have hks : k ≤ s.size := hk.1
      clear hk
      go_wp2_with fail
      refine (digits_any s k _ hs hks).mono ?_
      rintro e w' ⟨j, rfl, hkj, hj, hd, he, rfl⟩
      have HD : Hid (Digits s k j) := hd
      have HE : Hid ((h : j < s.size) → digB (s[j].toNat : Int) = false) := he
      clear hd he
      by_cases hlt : k < j
      · have HR : Hid (R s j = 2) := a_yes s k j HK.out hlt hj HD.out
        clear HK HD
        go_upto_region 7 with fail
        go_cut [40] from 23 to 40 (fun t wx => t = .bool (atB dotB s j) ∧ wx = w')
        case first =>
          by_cases hl : j < s.size
          · go_wp2
            go_meet
            case rel => exact ⟨congrArg Value.bool (by rw [atB_pos hl]; exact dot_same _), rfl⟩
          · go_wp2
            go_meet
            case rel => exact ⟨congrArg Value.bool (by rw [atB_neg hl]), rfl⟩
        case rest =>
          obtain ⟨rfl, rfl⟩ := hcut
          go_upto_if 40 with fail
          go_cut [3] from 40 to 49 (fun t wx => (∃ k : Nat, t = .int .i64 k ∧ AtB s k) ∧ wx = wc)
          case first =>
            cases hb : atB dotB s j with
            | true =>
              obtain ⟨hl, hc⟩ := atB_true hb
              have HR3 : Hid (R s (j + 1) = 3) := dot_step s j HR.out hl (by simpa [dotB] using hc)
              clear hc HR HE
              go_wp2_with fail
              refine (digits_at s _ (j + 1) _ (by omega) hs hl).mono ?_
              rintro e w' ⟨j2, rfl, hjj, hj2, hd, he, rfl⟩
              have HD : Hid (Digits s (j + 1) j2) := hd
              have HE : Hid ((h : j2 < s.size) → digB (s[j2].toNat : Int) = false) := he
              clear hd he
              by_cases hlt2 : j + 1 < j2
              · go_wp2
                go_meet
                case rel => exact ⟨⟨j2, rfl, frac_yes s (j + 1) j2 HR3.out hlt2 hj2 HD.out HE.out⟩, rfl⟩
              · have HF : Hid (B = false) := by
                  show B = false
                  rw [HB.out]
                  obtain rfl : j2 = j + 1 := by omega
                  exact frac_no s (j + 1) hl HR3.out HE.out
                clear HD HE HR3
                go_wp2
                go_ret
                exact ⟨ret_bool HF.out.symm, rfl⟩
            | false =>
              go_wp2
              go_meet
              case rel => exact ⟨⟨j, rfl, no_frac s j hj HR.out HE.out (fun h => by have := atB_false hb h; simpa [dotB] using this)⟩, rfl⟩
          case rest =>
            obtain ⟨⟨k3, rfl, hk3⟩, rfl⟩ := hcut
            have HK : Hid (AtB s k3) := hk3
            have hks3 : k3 ≤ s.size := hk3.1
            clear hk3 HR HE hlt hkj hj hks
            go_upto_region 11 with fail
            go_cut [65] from 50 to 65 (fun t wx => t = .bool (atB mrkB s k3) ∧ wx = wc)
            case first =>
              by_cases hl : k3 < s.size
              · go_wp2
                all_goals
                  go_meet
                  case rel => exact ⟨congrArg Value.bool (by rw [atB_pos hl]; first | exact mrk_hit (by assumption) | exact mrk_rest (by assumption)), rfl⟩
              · go_wp2
                go_meet
                case rel => exact ⟨congrArg Value.bool (by rw [atB_neg hl]), rfl⟩
            case rest =>
              obtain ⟨rfl, rfl⟩ := hcut
              go_upto_if 65 with fail
              go_cut [3] from 65 to 93 (fun t wx => (∃ k : Nat, t = .int .i64 k ∧ AtC s k) ∧ wx = wc)
              case first =>
                cases hb : atB mrkB s k3 with
                | true =>
                  obtain ⟨hl, hc⟩ := atB_true hb
                  have HR5 : Hid (R s (k3 + 1) = 5) := mark_step s k3 HK.out hl hc
                  clear hc HK
                  go_upto_region 13 with fail
                  go_cut [83] from 66 to 83 (fun t wx => t = .bool (atB sgnB s (k3 + 1)) ∧ wx = wc)
                  case first =>
                    by_cases hl2 : k3 + 1 < s.size
                    · go_wp2
                      all_goals
                        go_meet
                        case rel => exact ⟨congrArg Value.bool (by rw [atB_pos hl2]; first | exact sgn_hit (by assumption) | exact sgn_rest (by assumption)), rfl⟩
                    · go_wp2
                      go_meet
                      case rel => exact ⟨congrArg Value.bool (by rw [atB_neg hl2]), rfl⟩
                  case rest =>
                    obtain ⟨rfl, rfl⟩ := hcut
                    go_upto_if 83 with fail
                    go_cut [3] from 83 to 85 (fun t wx => (∃ k : Nat, t = .int .i64 k ∧ AtD s k) ∧ wx = wc)
                    case first =>
                      cases hb2 : atB sgnB s (k3 + 1) with
                      | true =>
                        obtain ⟨hl2, hc2⟩ := atB_true hb2
                        go_wp2
                        go_meet
                        case rel => exact ⟨⟨k3 + 1 + 1, by go_num, d_sign s (k3 + 1) HR5.out hl2 hc2⟩, rfl⟩
                      | false =>
                        go_wp2
                        go_meet
                        case rel => exact ⟨⟨k3 + 1, by go_num, d_none s (k3 + 1) hl HR5.out (atB_false hb2)⟩, rfl⟩
                    case rest =>
                      obtain ⟨⟨k5, rfl, hk5⟩, rfl⟩ := hcut
                      have HK5 : Hid (AtD s k5) := hk5
                      have hks5 : k5 ≤ s.size := hk5.1
                      clear hk5 HR5
                      go_wp2_with fail
                      refine (digits_any s k5 _ hs hks5).mono ?_
                      rintro e w' ⟨j5, rfl, hkj5, hj5, hd, he, rfl⟩
                      have HD : Hid (Digits s k5 j5) := hd
                      have HE : Hid ((h : j5 < s.size) → digB (s[j5].toNat : Int) = false) := he
                      clear hd he
                      by_cases hlt5 : k5 < j5
                      · go_wp2
                        go_meet
                        case rel => exact ⟨⟨j5, rfl, d_yes s k5 j5 HK5.out hlt5 hj5 HD.out HE.out⟩, rfl⟩
                      · have HF : Hid (B = false) := by
                          show B = false
                          rw [HB.out]
                          obtain rfl : j5 = k5 := by omega
                          exact d_no s j5 HK5.out HE.out
                        clear HD HE HK5
                        go_wp2
                        go_ret
                        exact ⟨ret_bool HF.out.symm, rfl⟩
                | false =>
                  go_wp2
                  go_meet
                  case rel => exact ⟨⟨k3, rfl, no_mark s k3 HK.out (atB_false hb)⟩, rfl⟩
              case rest =>
                obtain ⟨⟨k4, rfl, hk4⟩, rfl⟩ := hcut
                have HC : Hid (AtC s k4) := hk4
                have hks4 : k4 ≤ s.size := hk4.1
                clear hk4 HK
                go_wp2
                go_ret
                refine ⟨ret_bool ?_, rfl⟩
                rw [HB.out, ← c_end s k4 HC.out]
                by_cases h : k4 = s.size
                · simp [h]
                · simp [h]; omega
      · have HF : Hid (B = false) := by
          show B = false
          rw [HB.out]
          obtain rfl : j = k := by omega
          exact a_no s j HK.out HE.out
        clear HK HD HE
        go_wp2
        go_ret
        exact ⟨ret_bool HF.out.symm, rfl⟩

end Go.Proofs.Qxb6604232a.da
