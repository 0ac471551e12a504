/-
  (*reader).key (8) at the bare comma; ZZReaderKey (6).
-/
import Derived.Test.Qxb6603815aRkC
namespace Go.Proofs.Qxb6603815a.rk
open Go.ChangeShapes Go.WideShapes Go.ChangeAt Go.RowKit
set_option linter.unusedVariables false

set_option maxHeartbeats 400000 in
theorem key_bare (B g : Nat) (key : ByteArray) (w : World) (hk : key.size = 0) (hB : B < w.heap.size) (hg : g < B)
    (h0 : w.cell? ⟨B, 0, none⟩ = some (.slice (some ⟨g, 0, none⟩) 1 1)) (hf : w.frozen? ⟨B, 0, none⟩ = false)
    (hk44 : w.cell? ⟨g, 0, none⟩ = some (.int .u8 44)) :
    Calls Try.prog 8 #[.pointer (some ⟨B, 0, none⟩), .string key, .bool false] w fun e w' => e = .returned (.bool true) ∧ Left B g (1 + key.size) 0 w w' := by
  have hconv := fun w => run_bytes_of_string (P := Try.prog) w 9 22 5 key Try.underlying9 Try.underlying22 Try.underlying5
  have hgs : g < w.heap.size := by omega
  have HK : Hid (key.size = 0) := hk
  go_enter Try.func8, Try.ntmps8
  go_wp2_with fail
  refine (prefix_yes g 0 0 0 w.heap.size 0 0 _ [] [] _ rfl rfl (Nat.le_refl _) (Nat.le_refl _) rfl
    (fun i hi => absurd hi (Nat.not_lt_zero i)) (fun i hi => absurd hi (Nat.not_lt_zero i))).mono ?_
  rintro e w' ⟨rfl, rfl⟩
  go_wp2_with fail
  go_ret
  exact ⟨rfl, left_end w B g (1 + key.size) 0 _ _ _ _ hB h0 (fun h => absurd h (by omega))⟩

theorem below_drewN {B : Nat} {a w : World} (h : Below B a w) (n : Nat) : Below B a (w.drewN n) := ⟨h.os, h.tape, h.output, h.size, h.block⟩

set_option maxHeartbeats 400000 in
/-- ZZReaderKey out of what 'key' does at the reader that it builds. -/
theorem zzkey (g n cap o t : Nat) (key : ByteArray) (ok first : Bool) (w : World)
    (hkey : ∀ w1 : World, w1 = w.alloc (.cells #[.slice (some ⟨g, 0, none⟩) n cap, .bool ok] 30) → Calls Try.prog 8 #[.pointer (some ⟨w.heap.size, 0, none⟩), .string key, .bool first] w1 fun e w' => e = .returned (.bool true) ∧ Left w.heap.size g o t w1 w') :
    Calls Try.prog 6 #[.slice (some ⟨g, 0, none⟩) n cap, .bool ok, .string key, .bool first] w fun e w' => ∃ ao c, e = .returned (.tuple #[.slice ao t c, .bool ok, .bool true]) ∧
      (0 < t → ao = some ⟨g, o, none⟩) ∧ Below w.heap.size w w' := by
  have HK : Hid (∀ w1 : World, w1 = w.alloc (.cells #[.slice (some ⟨g, 0, none⟩) n cap, .bool ok] 30) → Calls Try.prog 8 #[.pointer (some ⟨w.heap.size, 0, none⟩), .string key, .bool first] w1 fun e w' => e = .returned (.bool true) ∧ Left w.heap.size g o t w1 w') := hkey
  clear hkey
  go_enter Try.func6, Try.ntmps6
  go_wp2_with fail
  refine (HK.out _ rfl).mono ?_
  rintro e w' ⟨rfl, ao, c, h0, hao, h1, hb⟩
  have h2 : w'.cell? ⟨w.heap.size, 1, none⟩ = some (.bool ok) := by rw [h1]; simp
  have HA : Hid (0 < t → ao = some ⟨g, o, none⟩) := hao
  have HB : Hid (Below w.heap.size w w') := ((Below.refl _ w).alloc (Nat.le_refl _) _).trans hb
  clear hao h1 hb HK
  go_wp2
  go_quiet (fail)
  go_wp2
  go_ret3
  exact ⟨ao, c, rfl, HA.out, below_drewN HB.out _⟩

theorem zz_first (g n cap t : Nat) (key : ByteArray) (T : List Int) (ok : Bool) (w : World) (hcap : cap = 1 + key.size + t) (hn : n = key.size + t) (hs : key.size + t ≤ 1048576) (hT : T.length = t) (hg : g < w.heap.size)
    (hc : ∀ i, i < n → w.cell? ⟨g, i, none⟩ = some (.int .u8 ((nums key ++ T).getD i 0))) :
    Calls Try.prog 6 #[.slice (some ⟨g, 0, none⟩) n cap, .bool ok, .string key, .bool true] w fun e w' => ∃ ao c, e = .returned (.tuple #[.slice ao t c, .bool ok, .bool true]) ∧
      (0 < t → ao = some ⟨g, key.size, none⟩) ∧ Below w.heap.size w w' :=
  zzkey g n cap key.size t key ok true w fun w1 h1 => by
    subst h1
    exact key_first w.heap.size g n cap t key (nums key ++ T) T _ (by omega) (by omega) (by omega) (by omega) hn (by rw [List.length_append, nums_length, hT, hn]) rfl (by simp) hg
      (by simp) (by simp) (fun i hi => (World.cell?_alloc_lt w _ ⟨g, i, none⟩ hg).trans (hc i hi))

theorem zz_later (g n t : Nat) (key : ByteArray) (T : List Int) (ok : Bool) (w : World) (hn : n = 1 + key.size + t) (hs : key.size + t ≤ 1048576) (hT : T.length = t) (hg : g < w.heap.size)
    (hc : ∀ i, i < n → w.cell? ⟨g, i, none⟩ = some (.int .u8 ((44 :: (nums key ++ T)).getD i 0))) :
    Calls Try.prog 6 #[.slice (some ⟨g, 0, none⟩) n n, .bool ok, .string key, .bool false] w fun e w' => ∃ ao c, e = .returned (.tuple #[.slice ao t c, .bool ok, .bool true]) ∧
      (0 < t → ao = some ⟨g, 1 + key.size, none⟩) ∧ Below w.heap.size w w' :=
  zzkey g n n (1 + key.size) t key ok false w fun w1 h1 => by
    subst h1
    by_cases h : 0 < key.size + t
    · exact key_later w.heap.size g n t key (44 :: (nums key ++ T)) T _ (by omega) hn h (by rw [List.length_cons, List.length_append, nums_length, hT, hn]; omega) rfl (by simp) hg
        (by simp) (by simp) (fun i hi => (World.cell?_alloc_lt w _ ⟨g, i, none⟩ hg).trans (hc i hi))
    · obtain rfl : t = 0 := by omega
      have hk : key.size = 0 := by omega
      obtain rfl : n = 1 := by omega
      exact key_bare w.heap.size g key _ hk (by simp) hg (by simp) (by simp) ((World.cell?_alloc_lt w _ ⟨g, 0, none⟩ hg).trans (hc 0 (by omega)))

end Go.Proofs.Qxb6603815a.rk
