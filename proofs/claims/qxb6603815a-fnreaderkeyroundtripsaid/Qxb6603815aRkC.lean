/-
  (*reader).key (8).
-/
import Derived.Test.Qxb6603815aRkB
namespace Go.Proofs.Qxb6603815a.rk
open Go.ChangeShapes Go.WideShapes Go.ChangeAt Go.RowKit
set_option linter.unusedVariables false

/-- A string's bytes as numbers. -/
def nums (s : ByteArray) : List Int := s.data.toList.map fun b => (b.toNat : Int)
theorem nums_length (s : ByteArray) : (nums s).length = s.size := by
  rw [nums, List.length_map, Array.length_toList]; rfl
theorem nums_at (s : ByteArray) (i : Nat) (h : i < s.data.size) : (nums s).getD i 0 = (s.data[i].toNat : Int) := by
  simp [nums, List.getD, Array.getElem?_eq_getElem h]

/-- The row that '[]byte(key)' lays holds the key's bytes. -/
theorem conv_cells (w : World) (key : ByteArray) (c i : Nat) (h : i < key.size) :
    (w.alloc (.cells (bytesRow key c) 5 ((bytesRow key c).size, (bytesRow key c).size + 1))).drew.cell? ⟨w.heap.size, 0 + i, none⟩ = some (.int .u8 ((nums key).getD i 0)) := by
  show (w.alloc (.cells (bytesRow key c) 5 ((bytesRow key c).size, (bytesRow key c).size + 1))).cell? ⟨w.heap.size, 0 + i, none⟩ = _
  rw [Nat.zero_add, World.cell?_alloc_mark, bytesRow_at key c i h, nums_at key i h]

theorem new_past (w : World) (o : Obj) (b i : Nat) (hb : b < w.heap.size) : (w.alloc o).drew.cell? ⟨b, i, none⟩ = w.cell? ⟨b, i, none⟩ :=
  World.cell?_alloc_lt w o ⟨b, i, none⟩ hb

/-- What the call leaves of the reader's two fields, and of all below it. -/
theorem key_end (w : World) (B : Nat) (v old : Value) (o : Obj) (hB : B < w.heap.size) (h0 : w.cell? ⟨B, 0, none⟩ = some old) :
    ((w.setCell ⟨B, 0, none⟩ v).alloc o).drew.cell? ⟨B, 0, none⟩ = some v ∧ ((w.setCell ⟨B, 0, none⟩ v).alloc o).drew.cell? ⟨B, 1, none⟩ = w.cell? ⟨B, 1, none⟩ ∧
      Below B w ((w.setCell ⟨B, 0, none⟩ v).alloc o).drew := by
  have hs : B < (w.setCell ⟨B, 0, none⟩ v).heap.size := by simpa [World.setCell] using hB
  refine ⟨?_, ?_, ?_⟩
  · exact (new_past _ _ _ _ hs).trans (World.cell?_setCell_same' w _ v (by rw [h0]; rfl))
  · exact (new_past _ _ _ _ hs).trans (World.cell?_setCell_other w _ _ v (fun e => by cases e))
  · exact (((Below.refl B w).setCell (Nat.le_refl _) v).alloc (by simp [World.setCell]; omega) o).drew

/-- What the law asks of the reader behind the call: its tail of t bytes lies at offset o of block g; the mark 'ok' stands; nothing below the reader has turned. -/
def Left (B g o t : Nat) (w w' : World) : Prop :=
  ∃ ao c, w'.cell? ⟨B, 0, none⟩ = some (.slice ao t c) ∧ (0 < t → ao = some ⟨g, o, none⟩) ∧ w'.cell? ⟨B, 1, none⟩ = w.cell? ⟨B, 1, none⟩ ∧ Below B w w'

theorem left_end (w : World) (B g o t : Nat) (ao : Option Addr) (c : Nat) (old : Value) (ob : Obj) (hB : B < w.heap.size) (h0 : w.cell? ⟨B, 0, none⟩ = some old) (h : 0 < t → ao = some ⟨g, o, none⟩) :
    Left B g o t w ((w.setCell ⟨B, 0, none⟩ (.slice ao t c)).alloc ob).drew := by
  obtain ⟨h1, h2, h3⟩ := key_end w B (.slice ao t c) old ob hB h0
  exact ⟨ao, c, h1, h, h2, h3⟩

set_option maxHeartbeats 400000 in
theorem key_first (B g n cap t : Nat) (key : ByteArray) (D T : List Int) (w : World) (hn : n ≤ 1048577) (hcap : cap ≤ 1048577) (hnc : n ≤ cap) (hlt : key.size < cap) (ht : n = key.size + t)
    (hDl : D.length = n) (hD : D = nums key ++ T) (hB : B < w.heap.size) (hg : g < B)
    (h0 : w.cell? ⟨B, 0, none⟩ = some (.slice (some ⟨g, 0, none⟩) n cap)) (hf : w.frozen? ⟨B, 0, none⟩ = false)
    (hc : ∀ i, i < n → w.cell? ⟨g, i, none⟩ = some (.int .u8 (D.getD i 0))) :
    Calls Try.prog 8 #[.pointer (some ⟨B, 0, none⟩), .string key, .bool true] w fun e w' => e = .returned (.bool true) ∧ Left B g key.size t w w' := by
  have hconv := fun w => run_bytes_of_string (P := Try.prog) w 9 22 5 key Try.underlying9 Try.underlying22 Try.underlying5
  have HD : Hid (D = nums key ++ T) := hD
  have hgs : g < w.heap.size := by omega
  have hsub : n - key.size = t := by omega
  have hkn : key.size ≤ n := by omega
  clear hD ht
  go_enter Try.func8, Try.ntmps8
  go_wp2_with fail
  refine (prefix_yes g 0 n cap w.heap.size 0 key.size _ D (nums key) _ hDl (nums_length key) hnc hkn (by rw [HD.out, List.take_left' (nums_length key)])
    (fun i hi => by rw [Nat.zero_add]; exact (new_past _ _ _ _ hgs).trans (hc i hi)) (fun i hi => conv_cells w key _ i hi)).mono ?_
  rintro e w' ⟨rfl, rfl⟩
  go_wp2_with fail
  go_ret
  exact ⟨rfl, left_end w B g key.size t _ _ _ _ hB h0 (fun _ => rfl)⟩

set_option maxHeartbeats 400000 in
theorem key_later (B g n t : Nat) (key : ByteArray) (D T : List Int) (w : World) (hn : n ≤ 1048577) (ht : n = 1 + key.size + t) (h1 : 0 < key.size + t)
    (hDl : D.length = n) (hD : D = 44 :: (nums key ++ T)) (hB : B < w.heap.size) (hg : g < B)
    (h0 : w.cell? ⟨B, 0, none⟩ = some (.slice (some ⟨g, 0, none⟩) n n)) (hf : w.frozen? ⟨B, 0, none⟩ = false)
    (hc : ∀ i, i < n → w.cell? ⟨g, i, none⟩ = some (.int .u8 (D.getD i 0))) :
    Calls Try.prog 8 #[.pointer (some ⟨B, 0, none⟩), .string key, .bool false] w fun e w' => e = .returned (.bool true) ∧ Left B g (1 + key.size) t w w' := by
  have hconv := fun w => run_bytes_of_string (P := Try.prog) w 9 22 5 key Try.underlying9 Try.underlying22 Try.underlying5
  have hk44 : w.cell? ⟨g, 0, none⟩ = some (.int .u8 44) := by rw [hc 0 (by omega), hD]; rfl
  have HD : Hid (D.drop 1 = nums key ++ T) := by rw [hD]; exact rfl
  have hgs : g < w.heap.size := by omega
  have HC : Hid (∀ i, i < n - 1 → w.cell? ⟨g, 1 + i, none⟩ = some (.int .u8 ((D.drop 1).getD i 0))) := fun i hi => by
    rw [hc (1 + i) (by omega)]
    congr 2
    simp [List.getD, Nat.add_comm 1 i]
  have hsub : n - 1 - key.size = t := by omega
  have hn1 : 1 < n := by omega
  have HT : Hid (n = 1 + key.size + t) := ht
  have HL : Hid (D.length = n) := hDl
  have hkn : key.size ≤ n - 1 := by omega
  clear hD hc ht hDl
  by_cases he : t = 0
  · subst he
    have hk : key.size = n - 1 := by have := HT.out; omega
    have HK : Hid (key.size = n - 1) := hk
    clear hk
    have hk1 : ¬ key.size < n - 1 := by have := HK.out; omega
    go_enter Try.func8, Try.ntmps8
    go_wp2_with fail
    refine (prefix_yes g 1 (n - 1) (n - 1) w.heap.size 0 key.size _ (D.drop 1) (nums key) _ (by rw [List.length_drop, HL.out]) (nums_length key) (Nat.le_refl _) hkn (by rw [HD.out, List.take_left' (nums_length key)])
      (fun i hi => (new_past _ _ _ _ hgs).trans (HC.out i hi)) (fun i hi => conv_cells w key _ i hi)).mono ?_
    rintro e w' ⟨rfl, rfl⟩
    go_wp2_with fail
    go_ret
    exact ⟨rfl, left_end w B g (1 + key.size) 0 _ _ _ _ hB h0 (fun h => absurd h (by omega))⟩
  · have hk1 : key.size < n - 1 := by have := HT.out; omega
    go_enter Try.func8, Try.ntmps8
    go_wp2_with fail
    refine (prefix_yes g 1 (n - 1) (n - 1) w.heap.size 0 key.size _ (D.drop 1) (nums key) _ (by rw [List.length_drop, HL.out]) (nums_length key) (Nat.le_refl _) hkn (by rw [HD.out, List.take_left' (nums_length key)])
      (fun i hi => (new_past _ _ _ _ hgs).trans (HC.out i hi)) (fun i hi => conv_cells w key _ i hi)).mono ?_
    rintro e w' ⟨rfl, rfl⟩
    go_wp2_with fail
    go_ret
    exact ⟨rfl, left_end w B g (1 + key.size) t _ _ _ _ hB h0 (fun _ => rfl)⟩

end Go.Proofs.Qxb6603815a.rk
