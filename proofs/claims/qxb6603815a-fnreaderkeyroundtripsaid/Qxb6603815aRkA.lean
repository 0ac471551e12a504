/-
  The small callees of 'FnReaderKeyRoundTrip', one contract each: zzBytes (4), zlSame (7), bytes.Equal (10), bytes.HasPrefix (9).
-/
import Derived.Test.Qxb6603815aRows
import Derived.WalkKit
import Derived.ProofKit
import Derived.Below
import Derived.Deep.QuietTactic
import Derived.BigQuiet
import Derived.Laws.BytesArg
import Derived.Laws.IdiomStrings
namespace Go.Proofs.Qxb6603815a.rk
open Go.ChangeShapes Go.WideShapes Go.ChangeAt Go.RowKit
set_option linter.unusedVariables false

theorem zz_yes (key : ByteArray) (a : Option Addr) (len cap : Nat) (b1 b2 : Bool) (w : World) (h : key.size + len ≤ 1048576) :
    Calls Try.prog 4 #[.string key, .slice a len cap, .bool b1, .bool b2] w fun e w' => e = .returned (.bool true) ∧ w' = w := by
  go_enter Try.func4, Try.ntmps4
  go_wp2
  go_ret
  exact ⟨rfl, rfl⟩

theorem zz_no (key : ByteArray) (a : Option Addr) (len cap : Nat) (b1 b2 : Bool) (w : World) (hk : key.size ≤ 9223372036854775807) (hl : len ≤ 9223372036854775807) (h : 1048576 < key.size + len) :
    Calls Try.prog 4 #[.string key, .slice a len cap, .bool b1, .bool b2] w fun e w' => e = .returned (.bool false) ∧ w' = w := by
  by_cases h1 : 1048576 < key.size
  · go_enter Try.func4, Try.ntmps4
    go_wp2
    go_ret
    exact ⟨rfl, rfl⟩
  · by_cases h2 : 1048576 < len
    · go_enter Try.func4, Try.ntmps4
      go_wp2
      go_ret
      exact ⟨rfl, rfl⟩
    · go_enter Try.func4, Try.ntmps4
      go_wp2
      go_ret
      exact ⟨rfl, rfl⟩

theorem equal_any (v1 v2 : Value) (s1 s2 : ByteArray) (w : World)
    (h1 : (convert 22 9 v1).run Try.prog w = .ok (.string s1) w) (h2 : (convert 22 9 v2).run Try.prog w = .ok (.string s2) w) :
    Calls Try.prog 10 #[v1, v2] w fun e w' => e = .returned (.bool (s1.toList == s2.toList)) ∧ w' = w := by
  go_enter Try.func10, Try.ntmps10
  go_wp2
  go_ret
  exact ⟨rfl, rfl⟩

theorem same_empty (a b : Option Addr) (c d : Nat) (w : World) :
    Calls Try.prog 7 #[.slice a 0 c, .slice b 0 d] w fun e w' => e = .returned (.bool true) ∧ w' = w := by
  go_enter Try.func7, Try.ntmps7
  go_wp2
  refine wp_loop_rounds 1 ?_
  rw [rounds_succ]
  go_wp2
  go_ret
  exact ⟨rfl, rfl⟩

set_option maxHeartbeats 400000 in
theorem same_any (b1 o1 b2 o2 n c d : Nat) (zs : List Int) (w : World) (hn : n ≤ 9223372036854775807) (hz : zs.length = n)
    (h1 : ∀ i, i < n → w.cell? ⟨b1, o1 + i, none⟩ = some (.int .u8 (zs.getD i 0))) (h2 : ∀ i, i < n → w.cell? ⟨b2, o2 + i, none⟩ = some (.int .u8 (zs.getD i 0))) :
    Calls Try.prog 7 #[.slice (some ⟨b1, o1, none⟩) n c, .slice (some ⟨b2, o2, none⟩) n d] w fun e w' => e = .returned (.bool true) ∧ ∃ m, w' = w.drewN m := by
  go_enter Try.func7, Try.ntmps7
  go_wp2
  go_loopw [5] (fun i wr => ∃ k m : Nat, k ≤ n ∧ i = .int .i64 k ∧ wr = w.drewN m) (fun i _ => n - (intOf i).toNat)
  case atStart => exact ⟨0, 0, Nat.zero_le _, rfl, rfl⟩
  case round =>
    obtain ⟨k, m, hk, rfl, rfl⟩ := hrel
    by_cases hlt : k < n
    · have g1 := h1 k hlt
      have g2 := h2 k hlt
      go_wp2
      go_quiet (fail)
      go_wp2
      go_roundw
      case rel => exact ⟨k + 1, _, by omega, by go_num, rfl⟩
      case measure => simp [intOf]; omega
    · go_wp2
      go_ret
      exact ⟨rfl, m, rfl⟩

end Go.Proofs.Qxb6603815a.rk
