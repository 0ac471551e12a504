/-
  'append(out, s...)' of a string within the capacity of a row that the call made; zlClone in one form.
-/
import Derived.Test.Qxb6603815aRkD
import Derived.Lib.AppendStr
import Derived.OpenShut
namespace Go.Proofs.Qxb6603815a.rk
open Go.ChangeShapes Go.WideShapes Go.ChangeAt Go.RowKit
set_option linter.unusedVariables false

theorem append_string_fits {P : Program} (w : World) {ops : Array Oper} {rest : List Oper} {o : Oper} {a : Act} {Q : Exit → Act → World → Prop}
    (hgd : o.guard = none) (sl x : Operand) (t u : TypeId) (ho : o.op = .call { callee := .builtin .append, args := #[sl, x], argTypes := #[t, u] })
    (base : Nat) (e : TypeId) (i : TypeInfo) (ht : P.underlying t = some (.slice e)) (hu : P.underlying u = some .string) (hi : P.info? e = some i) (hsize : i.size = 1)
    (g n cap : Nat) (xs : List Value) (hs : a.eval sl = .slice (some ⟨g, 0, none⟩) n cap) (hown : w.ownsRow base e 1 (.slice (some ⟨g, 0, none⟩) n cap) n xs) (s : ByteArray) (hx : a.eval x = .string s) (hroom : n + s.size ≤ cap)
    (hK : ∀ w', w'.ownsRow base e 1 (.slice (some ⟨g, 0, none⟩) (n + s.size) cap) (n + s.size) (xs ++ Lib.strCells s) → w.grownBy w' (some g) → wpList P ops Q rest (a.put o.dst (.slice (some ⟨g, 0, none⟩) (n + s.size) cap)) w') :
    wpList P ops Q (o :: rest) a w := by
  refine wpList_plain hgd fun K hK' => ?_
  have hxl : xs.length = n := by simpa using hown.1
  have hlen : (xs ++ Lib.strCells s).length = (n + s.size) * 1 := by rw [List.length_append, hxl, Lib.strCells_length, Nat.mul_one]
  rcases hown.2 with ⟨h, _⟩ | ⟨g', cap', cur, h, hbg, hg, hnc, hcm, hcs, htake⟩
  · simp at h
  · simp only [Value.slice.injEq, Option.some.injEq, Addr.mk.injEq, and_true, true_and] at h
    obtain ⟨rfl, rfl⟩ := h
    have hcs' : cur.size = cap := by simpa using hcs
    have hr := Lib.run_append_room_string (P := P) w t u o.type e i ht hu hi hsize g n cap cur hg s hroom (by omega)
    unfold Oper.wp execOp
    simp only [ho, resolve, invoke, builtin, Sem.run_bind, Sem.run_pure, Result.andThen_ok, List.map_toArray, List.map_cons, List.map_nil, hs, hx, hr]
    refine hK' _ _ (hK _ ⟨hlen, .inr ⟨g, cap, _, rfl, hbg, setRow_heap w g cur _ e _ hg, hroom, hcm, ?_, ?_⟩⟩ ⟨rfl, rfl, rfl, by simp, fun k _ hk => setRow_other w g k _ (fun e => hk (by simp [e]))⟩)
    · simp only [List.size_toArray, List.length_append, List.length_take, List.length_drop, Array.length_toList, Lib.strCells_length]
      omega
    · have ht' : cur.toList.take n = xs := by simpa using htake
      rw [ht', ← hlen]
      exact List.take_left

theorem strCells_nums (s : ByteArray) : Lib.strCells s = (nums s).map (Value.int .u8) := by
  simp [Lib.strCells, nums]

/-- What the walk is told of the slice that came in. -/
def IsRow (k : IntKind) (w : World) (a : Option Addr) (len cap : Nat) (zs : List Int) : Prop :=
  (a = none ∧ len = 0 ∧ cap = 0 ∧ zs = []) ∨
  ∃ x, a = some x ∧ len ≤ cap ∧ cap ≤ maxLen ∧ zs.length = cap ∧ (∀ i, i < zs.length → w.cell? (x.add i) = some (.int k (zs.getD i 0))) ∧ ∀ n ∈ zs, (Lit.int k n).wf = true

theorem clone_zero (x : Addr) (cap : Nat) (w : World) :
    Calls Try.prog 5 #[.slice (some x) 0 cap] w fun e w' => e = .returned (.slice (some ⟨w.heap.size, 0, none⟩) 0 0) ∧ Below w.heap.size w w' := by
  obtain ⟨i0, hi, hz0, hz1, hz2⟩ := info_parts info5
  have heq := eql_nil
  go_enter Try.func5, Try.ntmps5
  go_wp2_with (at_make; refine wpList_make_full _ rfl (.tmp 8) (.tmp 8) 22 rfl w.heap.size 5 i0 (.int .u8 0) 1 Try.underlying22 hi hz0 hz1 .i64 .i64 0 0 0 rfl rfl rfl rfl (by rw [hz2]; omega) (by unfold maxLen; omega) (Nat.le_refl _) ?_; intro w1 hown hgrow)
  have hb1 : Below w.heap.size w w1 := (Below.refl _ _).grown hgrow (Nat.le_refl _) (fun k hk => by cases hk)
  clear hgrow hown
  refine wp_loop_rounds 1 ?_
  rw [rounds_succ]
  go_wp2
  go_ret
  exact ⟨rfl, hb1⟩

theorem block_lt {w : World} {a : Addr} {v : Value} (h : w.cell? a = some v) : a.block < w.heap.size := by
  rcases Nat.lt_or_ge a.block w.heap.size with hl | hl
  · exact hl
  · simp [World.cell?, Array.getElem?_eq_none hl] at h

theorem clone_any (a : Option Addr) (len cap : Nat) (zs : List Int) (w : World) (h : IsRow .u8 w a len cap zs) (hlen : len ≤ 1048576) :
    Calls Try.prog 5 #[.slice a len cap] w fun e w' => ∃ ta bt, e = .returned (.slice ta len len) ∧ (ta = none ∧ len = 0 ∨ ta = some ⟨bt, 0, none⟩) ∧ (0 < len → bt < w'.heap.size) ∧
      (∀ i, i < len → w'.cell? ⟨bt, i, none⟩ = some (.int .u8 (zs.getD i 0))) ∧ Below w.heap.size w w' := by
  rcases h with ⟨rfl, rfl, rfl, rfl⟩ | ⟨x, rfl, hlc, hcm, hz, hc, _⟩
  · refine (clone_nil w).mono ?_
    rintro e w' ⟨rfl, rfl⟩
    exact ⟨none, 0, rfl, .inl ⟨rfl, rfl⟩, fun h => absurd h (by omega), fun i h => absurd h (by omega), Below.refl _ _⟩
  · by_cases h0 : len = 0
    · subst h0
      refine (clone_zero x cap w).mono ?_
      rintro e w' ⟨rfl, hb⟩
      exact ⟨_, w.heap.size, rfl, .inr rfl, fun h => absurd h (by omega), fun i h => absurd h (by omega), hb⟩
    · obtain ⟨b, off, rfl, hcc⟩ := ints_at hc (by omega)
      have hb : b < w.heap.size := block_lt (hcc 0 (by omega))
      refine (clone_some b off len cap zs w hlen (by omega) hb (fun i hi => hcc i (by omega))).mono ?_
      rintro e w' ⟨rfl, hown, hbel⟩
      refine ⟨_, w.heap.size, rfl, .inr rfl, fun _ => (hown.lt _ rfl).2, fun i hi => ?_, hbel⟩
      rw [hown.cellAt i (by omega)]
      have hiz : i < zs.length := by omega
      simp [List.getD, hi, hiz]

end Go.Proofs.Qxb6603815a.rk
