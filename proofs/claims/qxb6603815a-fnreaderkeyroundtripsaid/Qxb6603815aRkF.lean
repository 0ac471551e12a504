/-
  The walk of FnReaderKeyRoundTrip (3).
-/
import Derived.Test.Qxb6603815aRkE
namespace Go.Proofs.Qxb6603815a.rk
open Go.ChangeShapes Go.WideShapes Go.ChangeAt Go.RowKit
set_option linter.unusedVariables false

theorem walk_long (key : ByteArray) (a : Option Addr) (len cap : Nat) (ok first : Bool) (w : World) (hk : key.size ≤ 9223372036854775807) (hl : len ≤ 9223372036854775807) (h : 1048576 < key.size + len) :
    Calls Try.prog 3 #[.string key, .slice a len cap, .bool ok, .bool first] w fun e w' => e = .returned (.bool true) ∧ Below w.heap.size w w' := by
  go_enter Try.func3, Try.ntmps3
  go_wp2_with (go_at_call 4; refine (zz_no _ _ _ _ _ _ _ hk hl h).mono ?_; rintro e w ⟨rfl, rfl⟩)
  go_ret
  exact ⟨rfl, Below.refl _ _⟩

theorem row_len {w : World} {a : Option Addr} {len cap : Nat} {zs : List Int} (h : IsRow .u8 w a len cap zs) : len ≤ zs.length ∧ len ≤ 9223372036854775807 := by
  rcases h with ⟨rfl, rfl, rfl, rfl⟩ | ⟨x, rfl, h1, h2, h3, _⟩
  · exact ⟨by simp, by omega⟩
  · unfold maxLen at h2; exact ⟨by omega, by omega⟩

/-- The clone's cells where the append looks for them. -/
theorem tail_cells {w1 w3 : World} {ta : Option Addr} {bt len : Nat} {zs : List Int} (hta : ta = none ∧ len = 0 ∨ ta = some ⟨bt, 0, none⟩) (hcl : ∀ i, i < len → w1.cell? ⟨bt, i, none⟩ = some (.int .u8 (zs.getD i 0)))
    (hbt : 0 < len → bt < w1.heap.size) (hb : Below w1.heap.size w1 w3) : ∀ ad, ta = some ad → ∀ j u, ((zs.take len).map (Value.int .u8))[j]? = some u → w3.cell? (ad.add j) = some u := by
  intro ad had j u hu
  rcases hta with ⟨h, _⟩ | h
  · rw [h] at had; cases had
  · rw [h] at had
    obtain rfl := Option.some.inj had
    have hj := (List.getElem?_eq_some_iff.1 hu).1
    have hj' : j < len ∧ j < zs.length := by simp at hj; omega
    rw [Addr.add_lit, Nat.zero_add, hb.cell (by exact hbt (by omega)), hcl j hj'.1]
    simp [hj'.1, hj'.2] at hu
    simp [List.getD, hj'.2, hu]

/-- The data's cells, as numbers. -/
theorem data_cells {w4 : World} {base g n cap : Nat} {D : List Int} (h : w4.ownsRow base 5 1 (.slice (some ⟨g, 0, none⟩) n cap) n (D.map (Value.int .u8))) : ∀ i, i < n → w4.cell? ⟨g, i, none⟩ = some (.int .u8 (D.getD i 0)) := by
  intro i hi
  have hl : D.length = n := by simpa using h.1
  have hi' : i < D.length := by omega
  rw [h.cellAt i (by omega)]
  simp [List.getD, hi']

theorem same_tail (ao ta : Option Addr) (g o bt t c d : Nat) (T : List Int) (w : World) (ht : t ≤ 9223372036854775807) (hT : T.length = t) (hao : 0 < t → ao = some ⟨g, o, none⟩) (hta : 0 < t → ta = some ⟨bt, 0, none⟩)
    (h1 : ∀ i, i < t → w.cell? ⟨g, o + i, none⟩ = some (.int .u8 (T.getD i 0))) (h2 : ∀ i, i < t → w.cell? ⟨bt, i, none⟩ = some (.int .u8 (T.getD i 0))) :
    Calls Try.prog 7 #[.slice ao t c, .slice ta t d] w fun e w' => e = .returned (.bool true) ∧ ∃ m, w' = w.drewN m := by
  by_cases h : 0 < t
  · rw [hao h, hta h]
    exact same_any g o bt 0 t c d T w ht hT h1 (fun i hi => by rw [Nat.zero_add]; exact h2 i hi)
  · obtain rfl : t = 0 := by omega
    refine (same_empty ao ta c d w).mono ?_
    rintro e w' ⟨rfl, rfl⟩
    exact ⟨rfl, 0, rfl⟩

set_option maxHeartbeats 800000 in
theorem walk_first (key : ByteArray) (a : Option Addr) (len cap : Nat) (zs : List Int) (ok : Bool) (w : World) (h : key.size + len ≤ 1048576) (hrow : IsRow .u8 w a len cap zs) :
    Calls Try.prog 3 #[.string key, .slice a len cap, .bool ok, .bool true] w fun e w' => e = .returned (.bool true) ∧ Below w.heap.size w w' := by
  obtain ⟨i0, hi, hz0, hz1, hz2⟩ := info_parts info5
  have HR : Hid (IsRow .u8 w a len cap zs) := hrow
  have HRL : Hid (len ≤ zs.length) := (row_len hrow).1
  clear hrow
  go_enter Try.func3, Try.ntmps3
  go_wp2_with (go_at_call 4; refine (zz_yes _ _ _ _ _ _ _ h).mono ?_; rintro e w ⟨rfl, rfl⟩)
  refine (clone_any a len cap zs w HR.out (by omega)).mono ?_
  rintro e w1 ⟨ta, bt, rfl, hta, hbt, hcl, hb1⟩
  have HTA : Hid (ta = none ∧ len = 0 ∨ ta = some ⟨bt, 0, none⟩) := hta
  have HCL : Hid (∀ i, i < len → w1.cell? ⟨bt, i, none⟩ = some (.int .u8 (zs.getD i 0))) := hcl
  have HB1 : Hid (Below w.heap.size w w1) := hb1
  have HBT : Hid (0 < len → bt < w1.heap.size) := hbt
  clear hta hcl hb1 hbt HR
  go_wp2_with (first
    | (at_make; refine wpList_make_own _ rfl (.const (.int .i64 0)) (.tmp 42) 22 rfl w1.heap.size 5 i0 (.int .u8 0) 1 Try.underlying22 hi hz0 hz1 .i64 .i64 _ (1 + key.size + len) rfl rfl (by omega) (by rw [hz2]; omega) (by unfold maxLen; omega) (Nat.le_refl _) ?_; intro w2 hown2 hg2; have HB2 : Hid (Below w1.heap.size w1 w2) := (Below.refl _ _).grown hg2 (Nat.le_refl _) (fun k hk => by cases hk); clear hg2)
    | (at_builtin; refine append_string_fits _ rfl (.tmp 49) (.tmp 50) 22 9 rfl w1.heap.size 5 i0 Try.underlying22 Try.underlying9 hi hz1 w1.heap.size 0 (1 + key.size + len) [] rfl hown2 key rfl (by omega) ?_; intro w3 hown3 hg3; simp only [Nat.zero_add, List.nil_append] at hown3; have HB3 : Hid (Below w1.heap.size w1 w3) := HB2.out.grown hg3 HB2.out.size (fun k hk => by cases hk; exact Nat.le_refl _); clear hg3)
    | (at_builtin; refine wpList_append_fits_any _ rfl (.tmp 52) (.tmp 53) 22 rfl w1.heap.size 5 i0 1 Try.underlying22 hi hz1 w1.heap.size key.size (1 + key.size + len) (Lib.strCells key) rfl hown3 ta len len ((zs.take len).map (Value.int .u8)) rfl (by have := HRL.out; simp; omega) (fun h => by rcases HTA.out with h' | h'; exact ⟨h'.2, h'.2⟩; rw [h'] at h; cases h) (tail_cells HTA.out HCL.out HBT.out HB3.out) (ints_oneCell _ _) (by omega) ?_; intro w4 hown4 hg4; have HB4 : Hid (Below w1.heap.size w1 w4) := HB3.out.grown hg4 HB3.out.size (fun k hk => by cases hk; exact Nat.le_refl _); clear hg4))
  rw [strCells_nums, ← List.map_append] at hown4
  have HD : Hid (∀ i, i < key.size + len → w4.cell? ⟨w1.heap.size, i, none⟩ = some (.int .u8 ((nums key ++ zs.take len).getD i 0))) := data_cells hown4
  have hgl : w1.heap.size < w4.heap.size := (hown4.lt _ rfl).2
  have hTl : (zs.take len).length = len := by have := HRL.out; simp; omega
  clear hown2 hown3 hown4 HB2 HB3
  refine (zz_first w1.heap.size (key.size + len) (1 + key.size + len) len key (zs.take len) ok w4 rfl rfl h hTl hgl HD.out).mono ?_
  rintro e w5 ⟨ao, c, rfl, hao, hb5⟩
  have HAO : Hid (0 < len → ao = some ⟨w1.heap.size, key.size, none⟩) := hao
  have HB5 : Hid (Below w4.heap.size w4 w5) := hb5
  have HTL : Hid ((zs.take len).length = len) := hTl
  clear hao hb5 hTl
  go_wp2_with fail
  refine (same_tail ao ta w1.heap.size key.size bt len c len (zs.take len) w5 (by omega) HTL.out HAO.out (fun h => by rcases HTA.out with h' | h'; exact absurd h'.2 (by omega); exact h')
    (fun i hi => ?_) (fun i hi => ?_)).mono ?_
  · rw [HB5.out.cell (by exact hgl), HD.out (key.size + i) (by omega)]
    congr 2
    simp [List.getD, List.getElem?_append_right, nums_length]
  · rw [HB5.out.cell (by exact Nat.lt_trans (HBT.out (by omega)) hgl), HB4.out.cell (by exact HBT.out (by omega)), HCL.out i hi]
    congr 2
    simp [List.getD, hi]
  rintro e w6 ⟨rfl, m, rfl⟩
  go_wp2_with fail
  go_ret
  exact ⟨rfl, below_drewN ((HB1.out.trans (HB4.out.mono HB1.out.size)).trans (HB5.out.mono (Nat.le_trans HB1.out.size (Nat.le_of_lt hgl)))) m⟩

end Go.Proofs.Qxb6603815a.rk
