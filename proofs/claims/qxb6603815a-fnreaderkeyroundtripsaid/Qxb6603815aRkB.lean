/-
  bytes.HasPrefix (9) where it answers true; zlClone (5).
-/
import Derived.Test.Qxb6603815aRkA
import Derived.Laws.Cover3
namespace Go.Proofs.Qxb6603815a.rk
open Go.ChangeShapes Go.WideShapes Go.ChangeAt Go.RowKit
set_option linter.unusedVariables false

theorem prefix_yes (b1 o1 n c b2 o2 m d : Nat) (xs ys : List Int) (w : World) (hx : xs.length = n) (hy : ys.length = m) (hnc : n ≤ c) (hmn : m ≤ n) (hp : xs.take m = ys)
    (hc1 : ∀ i, i < n → w.cell? ⟨b1, o1 + i, none⟩ = some (.int .u8 (xs.getD i 0))) (hc2 : ∀ i, i < m → w.cell? ⟨b2, o2 + i, none⟩ = some (.int .u8 (ys.getD i 0))) :
    Calls Try.prog 9 #[.slice (some ⟨b1, o1, none⟩) n c, .slice (some ⟨b2, o2, none⟩) m d] w fun e w' => e = .returned (.bool true) ∧ w' = w := by
  have g2 := run_convert_bytes_arg (P := Try.prog) w 22 5 Try.underlying22 Try.underlying5 b2 o2 m d ys hy hc2 9 Try.underlying9
  have g1 : (convert 22 9 (.slice (some ⟨b1, o1, none⟩) m c)).run Try.prog w = .ok (.string (strOfNums ys)) w :=
    run_convert_bytes_arg (P := Try.prog) w 22 5 Try.underlying22 Try.underlying5 b1 o1 m c ys hy (fun i hi => by
      rw [hc1 i (by omega), ← hp]
      congr 2
      simp [List.getD, hi]) 9 Try.underlying9
  clear hp hc1 hc2 hx hy
  go_enter Try.func9, Try.ntmps9
  go_wp2_with (go_at_call 10; refine (equal_any _ _ (strOfNums ys) (strOfNums ys) _ g1 g2).mono ?_; rintro e w' ⟨rfl, rfl⟩)
  go_ret
  refine ⟨?_, rfl⟩
  simp

theorem info5 : (Try.prog.info? 5).map (fun i => (i.zero, i.size, i.bytes)) = some (some (.int .u8 0), 1, 1) := by kernel_rfl

theorem eql_nil (a : Option Addr) (l c : Nat) (w : World) : (binOp .eql 22 (.slice a l c) (.slice none 0 0)).run Try.prog w = .ok (.bool a.isNone) w := by
  simp only [binOp]
  simp [run_equal_slice_nil w 22 5 a l c Try.underlying22]

theorem clone_nil (w : World) : Calls Try.prog 5 #[.slice none 0 0] w fun e w' => e = .returned (.slice none 0 0) ∧ w' = w := by
  have heq := eql_nil
  go_enter Try.func5, Try.ntmps5
  go_wp2
  go_ret
  exact ⟨rfl, rfl⟩

theorem set_step (zs : List Int) (xs : List Value) (k : Nat) (hk : k < zs.length) (hx : k < xs.length) (v : Value) (hv : v = .int .u8 (zs.getD k 0)) :
    ((zs.take k).map (Value.int .u8) ++ xs.drop k).set k v = (zs.take (k + 1)).map (Value.int .u8) ++ xs.drop (k + 1) := by
  subst hv
  have hl : ((zs.take k).map (Value.int .u8)).length = k := by simp; omega
  rw [List.set_append_right _ _ (by omega), hl, Nat.sub_self, List.drop_eq_getElem_cons hx, List.set_cons_zero, List.take_succ_eq_append_getElem hk]
  rw [List.map_append, List.append_assoc]
  simp [List.getD, hk]

set_option maxHeartbeats 400000 in
theorem clone_some (b o len cap : Nat) (zs : List Int) (w : World) (hlen : len ≤ 1048576) (hlz : len ≤ zs.length) (hb : b < w.heap.size)
    (hc : ∀ i, i < len → w.cell? ⟨b, o + i, none⟩ = some (.int .u8 (zs.getD i 0))) :
    Calls Try.prog 5 #[.slice (some ⟨b, o, none⟩) len cap] w fun e w' => e = .returned (.slice (some ⟨w.heap.size, 0, none⟩) len len) ∧
      w'.ownsRow w.heap.size 5 1 (.slice (some ⟨w.heap.size, 0, none⟩) len len) len ((zs.take len).map (Value.int .u8)) ∧ Below w.heap.size w w' := by
  obtain ⟨i0, hi, hz0, hz1, hz2⟩ := info_parts info5
  have heq := eql_nil
  go_enter Try.func5, Try.ntmps5
  go_wp2_with (at_make; refine wpList_make_full _ rfl (.tmp 8) (.tmp 8) 22 rfl w.heap.size 5 i0 (.int .u8 0) 1 Try.underlying22 hi hz0 hz1 .i64 .i64 len len len rfl rfl rfl rfl (by rw [hz2]; omega) (by unfold maxLen; omega) (Nat.le_refl _) ?_; intro w1 hown hgrow)
  obtain ⟨xs, hxs⟩ : ∃ xs, xs = (madeCells (Value.int .u8 0).cells (len * 1)).toList := ⟨_, rfl⟩
  rw [← hxs] at hown
  have hxl : xs.length = len := by simpa using hown.1
  clear hxs
  have hb1 : Below w.heap.size w w1 := (Below.refl _ _).grown hgrow (Nat.le_refl _) (fun k hk => by cases hk)
  clear hgrow
  go_loopw [4] (fun i wr => ∃ k : Nat, k ≤ len ∧ i = .int .i64 k ∧ wr.ownsRow w.heap.size 5 1 (.slice (some ⟨w.heap.size, 0, none⟩) len len) len ((zs.take k).map (Value.int .u8) ++ xs.drop k) ∧ Below w.heap.size w wr) (fun i _ => len - (intOf i).toNat)
  case atStart => exact ⟨0, Nat.zero_le _, rfl, by simpa using hown, hb1⟩
  case round =>
    obtain ⟨k, hk, rfl, hownr, hbr⟩ := hrel
    clear hown hb1
    by_cases hlt : k < len
    · have g1 : wr.cell? ⟨b, o + k, none⟩ = some (.int .u8 (zs.getD k 0)) := (hbr.cell (by exact hb)).trans (hc k hlt)
      have g2 := hownr.frozenAt k
      have g3 : (wr.cell? ⟨w.heap.size, k, none⟩).isSome = true := by rw [hownr.cellAt k (by omega)]; simp; omega
      have HS : Hid ((wr.setCell ⟨w.heap.size, k, none⟩ (.int .u8 (zs.getD k 0))).ownsRow w.heap.size 5 1 (.slice (some ⟨w.heap.size, 0, none⟩) len len) len ((zs.take (k + 1)).map (Value.int .u8) ++ xs.drop (k + 1))) := by
        rw [← set_step zs xs k (by omega) (by omega) _ rfl]
        exact (hownr.stored k _).1
      have HB : Hid (Below w.heap.size w (wr.setCell ⟨w.heap.size, k, none⟩ (.int .u8 (zs.getD k 0)))) := hbr.setCell (Nat.le_refl _) _
      clear hownr hbr
      obtain ⟨v0, hv0⟩ := Option.isSome_iff_exists.1 g3
      clear g3
      go_wp2
      go_roundw
      case rel => exact ⟨k + 1, by omega, by go_num, HS.out, HB.out⟩
      case measure => simp [intOf]; omega
    · have : k = len := by omega
      subst this
      go_wp2
      go_ret
      refine ⟨rfl, ?_, hbr⟩
      rw [List.drop_of_length_le (by omega), List.append_nil] at hownr
      exact hownr

end Go.Proofs.Qxb6603815a.rk
