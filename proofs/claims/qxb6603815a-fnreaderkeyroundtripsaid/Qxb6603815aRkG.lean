/-
  The walk of FnReaderKeyRoundTrip (3) where 'first' is false.
-/
import Derived.Test.Qxb6603815aRkF
namespace Go.Proofs.Qxb6603815a.rk
open Go.ChangeShapes Go.WideShapes Go.ChangeAt Go.RowKit
set_option linter.unusedVariables false

theorem new_one (w : World) : ∀ j u, [Value.int .u8 44][j]? = some u → (w.alloc (.cells #[.int .u8 44] 5)).cell? ((⟨w.heap.size, 0, none⟩ : Addr).add j) = some u := by
  intro j u hj
  match j, hj with
  | 0, hj => simp at hj; subst hj; simp [Addr.add]

theorem one_cell (n : Int) : ∀ u ∈ [Value.int .u8 n], u.oneCell' = true := by
  intro u hu
  simp at hu
  subst hu
  rfl

set_option maxHeartbeats 800000 in
theorem walk_later (key : ByteArray) (a : Option Addr) (len cap : Nat) (zs : List Int) (ok : Bool) (w : World) (h : key.size + len ≤ 1048576) (hrow : IsRow .u8 w a len cap zs) :
    Calls Try.prog 3 #[.string key, .slice a len cap, .bool ok, .bool false] w fun e w' => e = .returned (.bool true) ∧ Below w.heap.size w w' := by
  obtain ⟨i0, hi, hz0, hz1, hz2⟩ := info_parts info5
  have HR : Hid (IsRow .u8 w a len cap zs) := hrow
  have HRL : Hid (len ≤ zs.length) := (row_len hrow).1
  clear hrow
  go_enter Try.func3, Try.ntmps3
  go_wp2_with (go_at_call 4; refine (zz_yes _ _ _ _ _ _ _ h).mono ?_; rintro e w ⟨rfl, rfl⟩)
  refine (clone_any a len cap zs w HR.out (by omega)).mono ?_
  rintro e w1 ⟨ta, bt, rfl, hta, hbt, hcl, hb1⟩
  have HTA : Hid (ta = none ∧ len = 0 ∨ ta = some ⟨bt, 0, none⟩) := hta
  have HCL : Hid (∀ i, i < len → w1.cell? ⟨bt, i, none⟩ = some (.int .u8 (zs.getD i 0))) := hcl
  have HB1 : Hid (Below w.heap.size w w1) := hb1
  have HBT : Hid (0 < len → bt < w1.heap.size) := hbt
  clear hta hcl hb1 hbt HR
  go_wp2_with (first
    | (at_make; refine wpList_make_own _ rfl (.const (.int .i64 0)) (.tmp 42) 22 rfl w1.heap.size 5 i0 (.int .u8 0) 1 Try.underlying22 hi hz0 hz1 .i64 .i64 _ (1 + key.size + len) rfl rfl (by omega) (by rw [hz2]; omega) (by unfold maxLen; omega) (Nat.le_refl _) ?_; intro w2 hown2 hg2; have HB2 : Hid (Below w1.heap.size w1 w2) := (Below.refl _ _).grown hg2 (Nat.le_refl _) (fun k hk => by cases hk); clear hg2)
    | (at_builtin; refine wpList_append_fits _ rfl (.tmp 46) (.tmp 47) 22 rfl w1.heap.size 5 i0 1 Try.underlying22 hi hz1 w1.heap.size 0 (1 + key.size + len) [] rfl (hown2.alloc _) ⟨w2.heap.size, 0, none⟩ 1 1 [.int .u8 44] rfl rfl (new_one w2) (one_cell 44) (by omega) ?_; intro w25 hown25 hg25; simp only [Nat.zero_add, List.nil_append] at hown25; have HB25 : Hid (Below w1.heap.size w1 w25) := (HB2.out.alloc HB2.out.size _).grown hg25 (Nat.le_trans HB2.out.size (by simp)) (fun k hk => by cases hk; exact Nat.le_refl _); clear hg25)
    | (at_builtin; refine append_string_fits _ rfl (.tmp 49) (.tmp 50) 22 9 rfl w1.heap.size 5 i0 Try.underlying22 Try.underlying9 hi hz1 w1.heap.size 1 (1 + key.size + len) [.int .u8 44] rfl hown25 key rfl (by omega) ?_; intro w3 hown3 hg3; have HB3 : Hid (Below w1.heap.size w1 w3) := HB25.out.grown hg3 HB25.out.size (fun k hk => by cases hk; exact Nat.le_refl _); clear hg3)
    | (at_builtin; refine wpList_append_fits_any _ rfl (.tmp 52) (.tmp 53) 22 rfl w1.heap.size 5 i0 1 Try.underlying22 hi hz1 w1.heap.size (1 + key.size) (1 + key.size + len) ([.int .u8 44] ++ Lib.strCells key) rfl hown3 ta len len ((zs.take len).map (Value.int .u8)) rfl (by have := HRL.out; simp; omega) (fun h => by rcases HTA.out with h' | h'; exact ⟨h'.2, h'.2⟩; rw [h'] at h; cases h) (tail_cells HTA.out HCL.out HBT.out HB3.out) (ints_oneCell _ _) (by omega) ?_; intro w4 hown4 hg4; have HB4 : Hid (Below w1.heap.size w1 w4) := HB3.out.grown hg4 HB3.out.size (fun k hk => by cases hk; exact Nat.le_refl _); clear hg4))
  have he : ([Value.int .u8 44] ++ Lib.strCells key) ++ (zs.take len).map (Value.int .u8) = (44 :: (nums key ++ zs.take len)).map (Value.int .u8) := by
    rw [strCells_nums]; simp
  rw [he] at hown4
  have HD : Hid (∀ i, i < 1 + key.size + len → w4.cell? ⟨w1.heap.size, i, none⟩ = some (.int .u8 ((44 :: (nums key ++ zs.take len)).getD i 0))) := data_cells hown4
  have hgl : w1.heap.size < w4.heap.size := (hown4.lt _ rfl).2
  have hTl : (zs.take len).length = len := by have := HRL.out; simp; omega
  clear he hown2 hown25 hown3 hown4 HB2 HB25 HB3
  refine (zz_later w1.heap.size (1 + key.size + len) len key (zs.take len) ok w4 rfl h hTl hgl HD.out).mono ?_
  rintro e w5 ⟨ao, c, rfl, hao, hb5⟩
  have HAO : Hid (0 < len → ao = some ⟨w1.heap.size, 1 + key.size, none⟩) := hao
  have HB5 : Hid (Below w4.heap.size w4 w5) := hb5
  have HTL : Hid ((zs.take len).length = len) := hTl
  clear hao hb5 hTl
  go_wp2_with fail
  refine (same_tail ao ta w1.heap.size (1 + key.size) bt len c len (zs.take len) w5 (by omega) HTL.out HAO.out (fun h => by rcases HTA.out with h' | h'; exact absurd h'.2 (by omega); exact h')
    (fun i hi => ?_) (fun i hi => ?_)).mono ?_
  · rw [HB5.out.cell (by exact hgl), HD.out (1 + key.size + i) (by omega)]
    congr 2
    rw [show 1 + key.size + i = (nums key).length + i + 1 from by rw [nums_length]; omega]
    simp [List.getD, List.getElem?_append_right]
  · rw [HB5.out.cell (by exact Nat.lt_trans (HBT.out (by omega)) hgl), HB4.out.cell (by exact HBT.out (by omega)), HCL.out i hi]
    congr 2
    simp [List.getD, hi]
  rintro e w6 ⟨rfl, m, rfl⟩
  go_wp2_with fail
  go_ret
  exact ⟨rfl, below_drewN ((HB1.out.trans (HB4.out.mono HB1.out.size)).trans (HB5.out.mono (Nat.le_trans HB1.out.size (Nat.le_of_lt hgl)))) m⟩

end Go.Proofs.Qxb6603815a.rk
