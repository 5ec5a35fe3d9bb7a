namespace Draw
/-- The state of the documented rule between two draws: whole trials so far, the trial's first draw, its last draw, the length of its run (0: no draw yet). -/
structure St where
  wh : Nat
  fi : Nat
  pr : Nat
  ru : Nat

def stp (u : Nat) (m : St) : St :=
  if m.ru = 0 then ⟨m.wh, u, u, 1⟩ else if u < m.pr then ⟨m.wh, m.fi, u, m.ru + 1⟩ else ⟨m.wh + 1, m.fi, m.pr, 0⟩
/-- The rule's state behind i draws (as long as no draw has ended it). -/
def M (u : Nat → Nat) : Nat → St
  | 0 => ⟨0, 0, 0, 0⟩
  | i + 1 => stp (u i) (M u i)
/-- Does the draw of number i end the rule? -/
def stop (u : Nat → Nat) (i : Nat) : Bool := (M u i).ru != 0 && !decide (u i < (M u i).pr) && (M u i).ru % 2 == 1

theorem M_new {u : Nat → Nat} {i wh fi pr : Nat} (h : M u i = ⟨wh, fi, pr, 0⟩) : M u (i + 1) = ⟨wh, u i, u i, 1⟩ ∧ stop u i = false := by
  simp [M, stp, stop, h]
theorem M_on {u : Nat → Nat} {i wh fi pr ru : Nat} (h : M u i = ⟨wh, fi, pr, ru⟩) (h0 : ru ≠ 0) (hl : u i < pr) : M u (i + 1) = ⟨wh, fi, u i, ru + 1⟩ ∧ stop u i = false := by
  simp [M, stp, stop, h, h0, hl]
theorem M_even {u : Nat → Nat} {i wh fi pr ru : Nat} (h : M u i = ⟨wh, fi, pr, ru⟩) (h0 : ru ≠ 0) (hl : ¬ u i < pr) (h2 : ru % 2 ≠ 1) : M u (i + 1) = ⟨wh + 1, fi, pr, 0⟩ ∧ stop u i = false := by
  simp [M, stp, stop, h, h0, hl, h2]
theorem M_odd {u : Nat → Nat} {i wh fi pr ru : Nat} (h : M u i = ⟨wh, fi, pr, ru⟩) (h0 : ru ≠ 0) (hl : ¬ u i < pr) (h2 : ru % 2 = 1) : stop u i = true := by
  simp [stop, h, h0, hl, h2]

/-- What the counts come to while nothing has ended the rule. -/
theorem counts {u : Nat → Nat} (hu : ∀ i, u i < 2 ^ 53) : ∀ i, (∀ j, j < i → stop u j = false) →
    3 * (M u i).wh + (M u i).ru ≤ i ∧ ((M u i).wh = 0 → (M u i).ru = i) ∧ (M u i).fi < 2 ^ 53 := by
  intro i
  induction i with
  | zero => intro _; simp [M]
  | succ i ih =>
    intro hs
    obtain ⟨h1, h2, h3⟩ := ih (fun j hj => hs j (by omega))
    have hsi := hs i (by omega)
    have hui := hu i
    cases hm : M u i with
    | mk wh fi pr ru =>
      rw [hm] at h1 h2 h3
      simp only at h1 h2 h3
      by_cases h0 : ru = 0
      · subst h0
        rw [(M_new hm).1]
        simp only
        refine ⟨by omega, fun h => ?_, hui⟩
        have := h2 h; omega
      · by_cases hl : u i < pr
        · rw [(M_on hm h0 hl).1]
          simp only
          refine ⟨by omega, fun h => ?_, h3⟩
          have := h2 h; omega
        · by_cases h4 : ru % 2 = 1
          · rw [M_odd hm h0 hl h4] at hsi
            exact absurd hsi (by decide)
          · rw [(M_even hm h0 hl h4).1]
            simp only
            exact ⟨by omega, fun h => absurd h (by omega), h3⟩

/-- The draw of number N is the first that ends the rule. -/
structure First (u : Nat → Nat) (N : Nat) : Prop where
  stops : stop u N = true
  none : ∀ j, j < N → stop u j = false

theorem first_odd {u : Nat → Nat} {N : Nat} (h : First u N) : (M u N).ru % 2 = 1 ∧ (M u N).ru ≠ 0 := by
  have := h.stops
  simp [stop] at this
  exact ⟨this.2, this.1.1⟩
end Draw
