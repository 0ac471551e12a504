/-
  The plain law: the automaton's run over a string's bytes. No dump.
-/
import Derived.WalkKit
namespace Go.Proofs.Qxb6604232a.da
set_option linter.unusedVariables false

def digB (c : Int) : Bool := decide (48 ≤ c ∧ c ≤ 57)
def sgnB (c : Int) : Bool := decide (c = 43 ∨ c = 45)
def mrkB (c : Int) : Bool := decide (c = 101 ∨ c = 69)

/-- One step of the automaton. -/
def stepI (st c : Int) : Int :=
  if st = 0 then (if sgnB c then 1 else if digB c then 2 else 8)
  else if st = 1 then (if digB c then 2 else 8)
  else if st = 2 then (if digB c then 2 else if c = 46 then 3 else if mrkB c then 5 else 8)
  else if st = 3 then (if digB c then 4 else 8)
  else if st = 4 then (if digB c then 4 else if mrkB c then 5 else 8)
  else if st = 5 then (if sgnB c then 6 else if digB c then 7 else 8)
  else if st = 6 then (if digB c then 7 else 8)
  else if st = 7 then (if digB c then 7 else 8)
  else 8

/-- The accepting states. -/
def accB (st : Int) : Bool := decide (st = 2 ∨ st = 4 ∨ st = 7)

/-- The state behind the first k bytes. -/
def R (s : ByteArray) (k : Nat) : Int := (s.data.toList.take k).foldl (fun st b => stepI st (b.toNat : Int)) 0

theorem R_zero (s : ByteArray) : R s 0 = 0 := rfl
theorem R_succ (s : ByteArray) (k : Nat) (h : k < s.size) : R s (k + 1) = stepI (R s k) (s[k].toNat : Int) := by
  have e : s.data.toList.take (k + 1) = s.data.toList.take k ++ [s[k]] := by
    rw [List.take_succ_eq_append_getElem (by simpa using h)]; rfl
  simp only [R, e, List.foldl_append, List.foldl_cons, List.foldl_nil]

theorem step_range (st c : Int) : 0 ≤ stepI st c ∧ stepI st c ≤ 8 := by
  unfold stepI
  repeat' split
  all_goals omega

theorem R_range (s : ByteArray) (k : Nat) (h : k ≤ s.size) : 0 ≤ R s k ∧ R s k ≤ 8 := by
  cases k with
  | zero => rw [R_zero]; omega
  | succ k => rw [R_succ s k (by omega)]; exact step_range _ _

theorem step_dead (c : Int) : stepI 8 c = 8 := by simp [stepI]

/-- Dead stays dead. -/
theorem dead (s : ByteArray) (k : Nat) (h : R s k = 8) : ∀ n, k + n ≤ s.size → R s (k + n) = 8
  | 0, _ => h
  | n + 1, hn => by
    show R s (k + n + 1) = 8
    rw [R_succ s (k + n) (by omega), dead s k h n (by omega), step_dead]

theorem dead_end (s : ByteArray) (k : Nat) (hk : k ≤ s.size) (h : R s k = 8) : accB (R s s.size) = false := by
  have := dead s k h (s.size - k) (by omega)
  rw [show k + (s.size - k) = s.size from by omega] at this
  rw [this]
  rfl

/-- A row of digits. -/
def Digits (s : ByteArray) (k j : Nat) : Prop := ∀ i, (h : i < s.size) → k ≤ i → i < j → digB (s[i].toNat : Int) = true

theorem digits_run (s : ByteArray) (q q' : Int) (hq : ∀ c, digB c = true → stepI q c = q') (hq' : ∀ c, digB c = true → stepI q' c = q') (k : Nat) (hR : R s k = q) :
    ∀ n, k + n + 1 ≤ s.size → Digits s k (k + n + 1) → R s (k + n + 1) = q'
  | 0, hn, hd => by
    show R s (k + 1) = q'
    rw [R_succ s k (by omega), hR]
    exact hq _ (hd k (by omega) (by omega) (by omega))
  | n + 1, hn, hd => by
    show R s (k + n + 1 + 1) = q'
    rw [R_succ s (k + n + 1) (by omega), digits_run s q q' hq hq' k hR n (by omega) (fun i h h1 h2 => hd i h h1 (by omega))]
    exact hq' _ (hd (k + n + 1) (by omega) (by omega) (by omega))

theorem digits_to (s : ByteArray) (q q' : Int) (hq : ∀ c, digB c = true → stepI q c = q') (hq' : ∀ c, digB c = true → stepI q' c = q') (k j : Nat) (hR : R s k = q) (hkj : k < j) (hj : j ≤ s.size) (hd : Digits s k j) : R s j = q' := by
  have := digits_run s q q' hq hq' k hR (j - k - 1) (by omega) (by rw [show k + (j - k - 1) + 1 = j from by omega]; exact hd)
  rwa [show k + (j - k - 1) + 1 = j from by omega] at this

theorem not_sign {c : Int} (h : digB c = true) : sgnB c = false := by
  simp [digB, sgnB] at *; omega
theorem st0 (c : Int) (h : digB c = true) : stepI 0 c = 2 := by simp [stepI, h, not_sign h]
theorem st1 (c : Int) (h : digB c = true) : stepI 1 c = 2 := by simp [stepI, h]
theorem st2 (c : Int) (h : digB c = true) : stepI 2 c = 2 := by simp [stepI, h]
theorem st3 (c : Int) (h : digB c = true) : stepI 3 c = 4 := by simp [stepI, h]
theorem st4 (c : Int) (h : digB c = true) : stepI 4 c = 4 := by simp [stepI, h]
theorem st5 (c : Int) (h : digB c = true) : stepI 5 c = 7 := by simp [stepI, h, not_sign h]
theorem st6 (c : Int) (h : digB c = true) : stepI 6 c = 7 := by simp [stepI, h]
theorem st7 (c : Int) (h : digB c = true) : stepI 7 c = 7 := by simp [stepI, h]

/-- Behind the first sign, or none: the state, and what may follow. -/
def AtA (s : ByteArray) (k : Nat) : Prop := k ≤ s.size ∧ (R s k = 1 ∨ (R s k = 0 ∧ ((h : k < s.size) → sgnB (s[k].toNat : Int) = false)))
/-- Behind the whole digits and the fraction. -/
def AtB (s : ByteArray) (k : Nat) : Prop := k ≤ s.size ∧ ((R s k = 2 ∧ ((h : k < s.size) → digB (s[k].toNat : Int) = false ∧ (s[k].toNat : Int) ≠ 46)) ∨ (R s k = 4 ∧ ((h : k < s.size) → digB (s[k].toNat : Int) = false)))
/-- Behind the exponent's sign, or none. -/
def AtD (s : ByteArray) (k : Nat) : Prop := k ≤ s.size ∧ (R s k = 6 ∨ (R s k = 5 ∧ ((h : k < s.size) → sgnB (s[k].toNat : Int) = false)))
/-- Behind all: an accepting state, and whatever follows kills it. -/
def AtC (s : ByteArray) (k : Nat) : Prop := k ≤ s.size ∧ accB (R s k) = true ∧ (k < s.size → R s (k + 1) = 8)

theorem a_sign (s : ByteArray) (h : 0 < s.size) (hc : sgnB (s[0].toNat : Int) = true) : AtA s 1 :=
  ⟨by omega, .inl (by rw [R_succ s 0 h, R_zero]; simp [stepI, hc])⟩
theorem a_none (s : ByteArray) (hc : (h : 0 < s.size) → sgnB (s[0].toNat : Int) = false) : AtA s 0 := ⟨by omega, .inr ⟨rfl, hc⟩⟩

/-- No digit where one is wanted: refused. -/
theorem a_no (s : ByteArray) (k : Nat) (h : AtA s k) (hd : (h : k < s.size) → digB (s[k].toNat : Int) = false) : accB (R s s.size) = false := by
  obtain ⟨hk, h⟩ := h
  by_cases hlt : k < s.size
  · refine dead_end s (k + 1) (by omega) ?_
    have h1 := hd hlt
    rcases h with h | ⟨h, hs⟩
    · rw [R_succ s k hlt, h]; simp [stepI, h1]
    · rw [R_succ s k hlt, h]; simp [stepI, h1, hs hlt]
  · obtain rfl : k = s.size := by omega
    rcases h with h | ⟨h, _⟩ <;> rw [h] <;> rfl
theorem a_yes (s : ByteArray) (k j : Nat) (h : AtA s k) (hkj : k < j) (hj : j ≤ s.size) (hd : Digits s k j) : R s j = 2 := by
  obtain ⟨hk, h⟩ := h
  rcases h with h | ⟨h, _⟩
  · exact digits_to s 1 2 st1 st2 k j h hkj hj hd
  · exact digits_to s 0 2 st0 st2 k j h hkj hj hd

theorem dot_step (s : ByteArray) (k : Nat) (h : R s k = 2) (hlt : k < s.size) (hc : (s[k].toNat : Int) = 46) : R s (k + 1) = 3 := by
  rw [R_succ s k hlt, h, hc]; rfl
theorem frac_no (s : ByteArray) (k : Nat) (hk : k ≤ s.size) (h : R s k = 3) (hd : (h : k < s.size) → digB (s[k].toNat : Int) = false) : accB (R s s.size) = false := by
  by_cases hlt : k < s.size
  · refine dead_end s (k + 1) (by omega) ?_
    rw [R_succ s k hlt, h]; simp [stepI, hd hlt]
  · obtain rfl : k = s.size := by omega
    rw [h]; rfl
theorem frac_yes (s : ByteArray) (k j : Nat) (h : R s k = 3) (hkj : k < j) (hj : j ≤ s.size) (hd : Digits s k j) (he : (h : j < s.size) → digB (s[j].toNat : Int) = false) : AtB s j :=
  ⟨hj, .inr ⟨digits_to s 3 4 st3 st4 k j h hkj hj hd, he⟩⟩
theorem no_frac (s : ByteArray) (k : Nat) (hk : k ≤ s.size) (h : R s k = 2) (hd : (h : k < s.size) → digB (s[k].toNat : Int) = false) (hc : (h : k < s.size) → (s[k].toNat : Int) ≠ 46) : AtB s k :=
  ⟨hk, .inl ⟨h, fun h => ⟨hd h, hc h⟩⟩⟩

theorem mark_step (s : ByteArray) (k : Nat) (h : AtB s k) (hlt : k < s.size) (hc : mrkB (s[k].toNat : Int) = true) : R s (k + 1) = 5 := by
  obtain ⟨hk, h⟩ := h
  rcases h with ⟨h, hx⟩ | ⟨h, hx⟩
  · rw [R_succ s k hlt, h]; simp [stepI, (hx hlt).1, (hx hlt).2, hc]
  · rw [R_succ s k hlt, h]; simp [stepI, hx hlt, hc]
theorem no_mark (s : ByteArray) (k : Nat) (h : AtB s k) (hc : (h : k < s.size) → mrkB (s[k].toNat : Int) = false) : AtC s k := by
  obtain ⟨hk, h⟩ := h
  rcases h with ⟨h, hx⟩ | ⟨h, hx⟩
  · refine ⟨hk, by rw [h]; rfl, fun hlt => ?_⟩
    rw [R_succ s k hlt, h]; simp [stepI, (hx hlt).1, (hx hlt).2, hc hlt]
  · refine ⟨hk, by rw [h]; rfl, fun hlt => ?_⟩
    rw [R_succ s k hlt, h]; simp [stepI, hx hlt, hc hlt]
theorem d_sign (s : ByteArray) (k : Nat) (h : R s k = 5) (hlt : k < s.size) (hc : sgnB (s[k].toNat : Int) = true) : AtD s (k + 1) :=
  ⟨by omega, .inl (by rw [R_succ s k hlt, h]; simp [stepI, hc])⟩
theorem d_none (s : ByteArray) (k : Nat) (hk : k ≤ s.size) (h : R s k = 5) (hc : (h : k < s.size) → sgnB (s[k].toNat : Int) = false) : AtD s k := ⟨hk, .inr ⟨h, hc⟩⟩
theorem d_no (s : ByteArray) (k : Nat) (h : AtD s k) (hd : (h : k < s.size) → digB (s[k].toNat : Int) = false) : accB (R s s.size) = false := by
  obtain ⟨hk, h⟩ := h
  by_cases hlt : k < s.size
  · refine dead_end s (k + 1) (by omega) ?_
    have h1 := hd hlt
    rcases h with h | ⟨h, hs⟩
    · rw [R_succ s k hlt, h]; simp [stepI, h1]
    · rw [R_succ s k hlt, h]; simp [stepI, h1, hs hlt]
  · obtain rfl : k = s.size := by omega
    rcases h with h | ⟨h, _⟩ <;> rw [h] <;> rfl
theorem d_yes (s : ByteArray) (k j : Nat) (h : AtD s k) (hkj : k < j) (hj : j ≤ s.size) (hd : Digits s k j) (he : (h : j < s.size) → digB (s[j].toNat : Int) = false) : AtC s j := by
  have h7 : R s j = 7 := by
    obtain ⟨hk, h⟩ := h
    rcases h with h | ⟨h, _⟩
    · exact digits_to s 6 7 st6 st7 k j h hkj hj hd
    · exact digits_to s 5 7 st5 st7 k j h hkj hj hd
  refine ⟨hj, by rw [h7]; rfl, fun hlt => ?_⟩
  rw [R_succ s j hlt, h7]; simp [stepI, he hlt]

theorem c_end (s : ByteArray) (k : Nat) (h : AtC s k) : decide (k = s.size) = accB (R s s.size) := by
  obtain ⟨hk, ha, hx⟩ := h
  by_cases hlt : k < s.size
  · rw [dead_end s (k + 1) (by omega) (hx hlt)]
    simp; omega
  · obtain rfl : k = s.size := by omega
    rw [ha]; simp

end Go.Proofs.Qxb6604232a.da
