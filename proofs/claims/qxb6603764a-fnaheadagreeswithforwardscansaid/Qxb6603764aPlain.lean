namespace Ahead
/-- The last writer (kind 2) among the first i contenders. -/
def scan (K : Nat → Int) : Nat → Option Nat
  | 0 => none
  | i + 1 => if K i = 2 then some i else scan K i
/-- Whom contender i waits for. -/
def ahead (K : Nat → Int) (i : Nat) : Option Nat :=
  if K i = 1 then scan K i else if i = 0 then none else some (i - 1)
theorem scan_lt {K : Nat → Int} {i j : Nat} (h : scan K i = some j) : j < i := by
  induction i with
  | zero => simp [scan] at h
  | succ i ih =>
    simp only [scan] at h
    split at h
    · cases h; omega
    · have := ih h; omega
theorem ahead_lt {K : Nat → Int} {i j : Nat} (h : ahead K i = some j) : j < i := by
  unfold ahead at h
  split at h
  · exact scan_lt h
  · split at h
    · cases h
    · cases h; omega
/-- As the law writes it: -1 for nobody. -/
def enc : Option Nat → Int
  | none => -1
  | some j => (j : Int)
theorem enc_bd {K : Nat → Int} {i : Nat} : -1 ≤ enc (scan K i) ∧ enc (scan K i) < (i : Int) := by
  cases h : scan K i with
  | none => simp only [enc]; omega
  | some j => have := scan_lt h; simp only [enc]; omega
theorem scan_hit {K : Nat → Int} {i : Nat} (h : K i = 2) : scan K (i + 1) = some i := by simp [scan, h]
theorem scan_miss {K : Nat → Int} {i : Nat} (h : K i ≠ 2) : scan K (i + 1) = scan K i := by simp [scan, h]

/-! ### Who holds -/
theorem hold_zero (K : Nat → Int) : ahead K 0 = none := by simp [ahead, scan]
theorem hold_reader {K : Nat → Int} {i : Nat} (hi : 1 ≤ i) (h : ahead K i = none) : K i = 1 ∧ scan K i = none := by
  unfold ahead at h
  split at h
  · exact ⟨by assumption, h⟩
  · rw [if_neg (by omega)] at h; cases h
theorem scan_some_of_zero {K : Nat → Int} (h0 : K 0 = 2) : ∀ i, 1 ≤ i → scan K i ≠ none := by
  intro i
  induction i with
  | zero => intro h; omega
  | succ i ih =>
    intro _
    by_cases h2 : K i = 2
    · rw [scan_hit h2]; simp
    · rw [scan_miss h2]
      rcases Nat.eq_zero_or_pos i with rfl | h
      · exact absurd h0 h2
      · exact ih h
/-- One lock's queue: the first kind is a reader's or a writer's and so are all, or all are of the first kind. -/
def One (K : Nat → Int) (n : Nat) : Prop :=
  ((K 0 = 1 ∨ K 0 = 2) ∧ ∀ i, i < n → K i = 1 ∨ K i = 2) ∨ (K 0 ≠ 1 ∧ K 0 ≠ 2 ∧ ∀ i, i < n → K i = K 0)
/-- The holders stand at the head of the queue. -/
theorem hold_pred {K : Nat → Int} {n i : Nat} (h1 : One K n) (hi : i + 1 < n) (h : ahead K (i + 1) = none) : ahead K i = none := by
  obtain ⟨hr, hs⟩ := hold_reader (by omega) h
  rcases h1 with ⟨_, hall⟩ | ⟨hk1, _, hall⟩
  · have h2 : K i ≠ 2 := by
      intro h2
      rw [scan_hit h2] at hs; cases hs
    rw [scan_miss h2] at hs
    have := hall i (by omega)
    unfold ahead
    rw [if_pos (by omega)]
    exact hs
  · have := hall (i + 1) hi
    omega
/-- If the first is no reader, it is the only holder. -/
theorem hold_alone {K : Nat → Int} {n i : Nat} (h1 : One K n) (hi : i < n) (hi1 : 1 ≤ i) (h0 : K 0 ≠ 1) : ahead K i ≠ none := by
  intro h
  obtain ⟨hr, hs⟩ := hold_reader hi1 h
  rcases h1 with ⟨h2, _⟩ | ⟨_, _, hall⟩
  · exact scan_some_of_zero (by omega) i hi1 hs
  · have := hall i hi
    omega
/-- What the law's loop knows behind i contenders. -/
def Inv (K : Nat → Int) (i : Nat) (h : Nat) (nr pe : Bool) : Prop :=
  (i = 0 ∧ h = 0 ∧ nr = false ∧ pe = false) ∨
  (1 ≤ i ∧ 1 ≤ h ∧ h ≤ i ∧ (nr = true ↔ K 0 ≠ 1) ∧ (nr = true → h = 1) ∧ (pe = true ↔ ahead K (i - 1) ≠ none))
theorem inv_hold {K : Nat → Int} {n i h : Nat} {nr pe : Bool} (h1 : One K n) (hi : i < n) (hv : Inv K i h nr pe) (ha : ahead K i = none) :
    pe = false ∧ Inv K (i + 1) (h + 1) (nr || decide (K i ≠ 1)) false := by
  rcases hv with ⟨rfl, rfl, rfl, rfl⟩ | ⟨g1, g2, g3, g4, g5, g6⟩
  · refine ⟨rfl, Or.inr ⟨by omega, by omega, by omega, by simp, fun _ => rfl, ?_⟩⟩
    simp [ha]
  · obtain ⟨i', rfl⟩ : ∃ i', i = i' + 1 := ⟨i - 1, by omega⟩
    have hp := hold_pred h1 hi ha
    obtain ⟨hr, _⟩ := hold_reader (by omega) ha
    have hpe : pe = false := by
      cases pe with
      | false => rfl
      | true => exact absurd hp (g6.1 rfl)
    have hnr : nr = false := by
      cases nr with
      | false => rfl
      | true => exact absurd ha (hold_alone h1 hi (by omega) (g4.1 rfl))
    subst hnr
    refine ⟨hpe, Or.inr ⟨by omega, by omega, by omega, ?_, ?_, ?_⟩⟩
    · simp only [hr, Bool.false_or, ne_eq, not_true, decide_false]
      exact g4
    · intro h; simp [hr] at h
    · simp [ha]
theorem inv_wait {K : Nat → Int} {i h : Nat} {nr pe : Bool} (hv : Inv K i h nr pe) (ha : ahead K i ≠ none) :
    1 ≤ i ∧ Inv K (i + 1) h nr true := by
  rcases hv with ⟨rfl, rfl, rfl, rfl⟩ | ⟨g1, g2, g3, g4, g5, g6⟩
  · exact absurd (hold_zero K) ha
  · exact ⟨g1, Or.inr ⟨by omega, g2, by omega, g4, g5, by simp [ha]⟩⟩
theorem inv_end {K : Nat → Int} {n h : Nat} {nr pe : Bool} (hn : 1 ≤ n) (hv : Inv K n h nr pe) : 1 ≤ h ∧ (nr = true → h = 1) := by
  rcases hv with ⟨rfl, _⟩ | ⟨_, g2, _, _, g5, _⟩
  · omega
  · exact ⟨g2, g5⟩
end Ahead
