namespace Stride
theorem prime_of (p : Nat) (hp : 0 < p) (hall : ∀ d, d < p + 1 → d ∣ p → d = 1 ∨ d = p) (w : Nat) (h : Nat.gcd p w ≠ 1) : p ∣ w := by
  have h1 : Nat.gcd p w ∣ p := Nat.gcd_dvd_left p w
  have h2 : Nat.gcd p w ∣ w := Nat.gcd_dvd_right p w
  rcases hall _ (Nat.lt_succ_of_le (Nat.le_of_dvd hp h1)) h1 with h3 | h3
  · exact absurd h3 h
  · rw [h3] at h2; exact h2
theorem mul_dvd {a b w : Nat} (h : Nat.gcd a b = 1) (ha : a ∣ w) (hb : b ∣ w) : a * b ∣ w :=
  Nat.Coprime.mul_dvd_of_dvd_of_dvd h ha hb
theorem prod_dvd (w : Nat) (d37 : 37 ∣ w) (d41 : 41 ∣ w) (d43 : 43 ∣ w) (d47 : 47 ∣ w) (d53 : 53 ∣ w) (d59 : 59 ∣ w) (d61 : 61 ∣ w) (d67 : 67 ∣ w) : 39181802686993 ∣ w := by
  have e1 : 1517 ∣ w := mul_dvd (a := 37) (by decide +kernel) d37 d41
  have e2 : 65231 ∣ w := mul_dvd (a := 1517) (by decide +kernel) e1 d43
  have e3 : 3065857 ∣ w := mul_dvd (a := 65231) (by decide +kernel) e2 d47
  have e4 : 162490421 ∣ w := mul_dvd (a := 3065857) (by decide +kernel) e3 d53
  have e5 : 9586934839 ∣ w := mul_dvd (a := 162490421) (by decide +kernel) e4 d59
  have e6 : 584803025179 ∣ w := mul_dvd (a := 9586934839) (by decide +kernel) e5 d61
  exact mul_dvd (a := 584803025179) (by decide +kernel) e6 d67
/-- Below the product of the primes 37 .. 67 some number from 37 to 67 shares no factor with w. -/
theorem exists_coprime (w : Nat) (h1 : 1 ≤ w) (h : w < 39181802686993) : ¬ ∀ t, 37 ≤ t → t ≤ 67 → Nat.gcd t w ≠ 1 := by
  intro hall
  have d37 := prime_of 37 (by decide) (by decide +kernel) w (hall 37 (by decide) (by decide))
  have d41 := prime_of 41 (by decide) (by decide +kernel) w (hall 41 (by decide) (by decide))
  have d43 := prime_of 43 (by decide) (by decide +kernel) w (hall 43 (by decide) (by decide))
  have d47 := prime_of 47 (by decide) (by decide +kernel) w (hall 47 (by decide) (by decide))
  have d53 := prime_of 53 (by decide) (by decide +kernel) w (hall 53 (by decide) (by decide))
  have d59 := prime_of 59 (by decide) (by decide +kernel) w (hall 59 (by decide) (by decide))
  have d61 := prime_of 61 (by decide) (by decide +kernel) w (hall 61 (by decide) (by decide))
  have d67 := prime_of 67 (by decide) (by decide +kernel) w (hall 67 (by decide) (by decide))
  exact Nat.not_le_of_lt h (Nat.le_of_dvd h1 (prod_dvd w d37 d41 d43 d47 d53 d59 d61 d67))

/-- s is the least number from 37 up that shares no factor with w, and it is at most 67. -/
structure Least (s w : Nat) : Prop where
  lo : 37 ≤ s
  hi : s ≤ 67
  cop : Nat.gcd s w = 1
  least : ∀ u, 37 ≤ u → u < s → Nat.gcd u w ≠ 1

theorem least_unique {s t w : Nat} (a : Least s w) (b : Least t w) : s = t := by
  rcases Nat.lt_trichotomy s t with h | h | h
  · exact absurd a.cop (b.least s a.lo h)
  · exact h
  · exact absurd b.cop (a.least t b.lo h)

/-- No common divisor from 2 to t: coprime. -/
theorem cop_of {t w : Nat} (ht : 1 ≤ t) (h : ∀ c, 2 ≤ c → c < t + 1 → ¬ (c ∣ t ∧ c ∣ w)) : Nat.gcd t w = 1 := by
  have h1 : Nat.gcd t w ∣ t := Nat.gcd_dvd_left t w
  have h2 : Nat.gcd t w ∣ w := Nat.gcd_dvd_right t w
  have h3 : 0 < Nat.gcd t w := Nat.gcd_pos_of_pos_left w ht
  have h4 : Nat.gcd t w ≤ t := Nat.le_of_dvd ht h1
  rcases Nat.lt_or_ge (Nat.gcd t w) 2 with h5 | h5
  · omega
  · exact absurd ⟨h1, h2⟩ (h _ h5 (by omega))
theorem not_cop {t w c : Nat} (hc : 2 ≤ c) (h1 : c ∣ t) (h2 : c ∣ w) : Nat.gcd t w ≠ 1 := by
  intro h
  have := Nat.dvd_gcd h1 h2
  rw [h] at this
  have := Nat.le_of_dvd (by decide) this
  omega
def copB (t w : Nat) : Bool := Nat.gcd t w == 1
theorem copB_true {t w : Nat} (h : Nat.gcd t w = 1) : copB t w = true := by simp [copB, h]
theorem copB_false {t w : Nat} (h : Nat.gcd t w ≠ 1) : copB t w = false := by simp [copB, h]

/-! ### Stepping by s modulo n -/
theorem step_inj {s n i j : Nat} (hc : Nat.gcd s n = 1) (hij : i ≤ j) (hj : j < n) (h : i * s % n = j * s % n) : i = j := by
  have hd : n ∣ (j - i) * s := by
    rw [Nat.sub_mul]
    exact Nat.dvd_of_mod_eq_zero (Nat.sub_mod_eq_zero_of_mod_eq h.symm)
  have hd2 : n ∣ j - i := Nat.Coprime.dvd_of_dvd_mul_right (by rw [Nat.Coprime, Nat.gcd_comm]; exact hc) hd
  rcases Nat.eq_zero_or_pos (j - i) with h0 | h0
  · omega
  · have := Nat.le_of_dvd h0 hd2
    omega
theorem step_fresh {s n i k : Nat} (hc : Nat.gcd s n = 1) (hi : i < k) (hk : k < n) : i * s % n ≠ k * s % n := by
  intro h
  have := step_inj hc (Nat.le_of_lt hi) hk h
  omega
theorem step_succ (s n k : Nat) : (k * s % n + s) % n = (k + 1) * s % n := by
  rw [Nat.add_mul, Nat.one_mul, Nat.mod_add_mod]
theorem step_home (s n : Nat) : n * s % n = 0 := Nat.mul_mod_right n s
end Stride
