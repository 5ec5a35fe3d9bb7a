import Ieee.Arith
namespace Fl
open Ieee

/-- What a rung of the double format stands for, in units of 2^-1074. -/
def U (r : Nat) : Nat := if r < 2 ^ 52 then r else (2 ^ 52 + r % 2 ^ 52) * 2 ^ (r / 2 ^ 52 - 1)

def inf : Nat := 2047 * 2 ^ 52

/-- A rung as its binade and its significand. -/
theorem U_form (r : Nat) : ∃ e q, r = e * 2 ^ 52 + q ∧ U r = q * 2 ^ e ∧ q < 2 ^ 53 ∧ (e = 0 ∨ 2 ^ 52 ≤ q) := by
  unfold U
  by_cases h : r < 2 ^ 52
  · exact ⟨0, r, by omega, by simp [h], by omega, Or.inl rfl⟩
  · refine ⟨r / 2 ^ 52 - 1, 2 ^ 52 + r % 2 ^ 52, ?_, by simp [h], ?_, ?_⟩
    · have h1 : 1 ≤ r / 2 ^ 52 := by omega
      have h2 := Nat.div_add_mod r (2 ^ 52)
      rw [Nat.sub_mul]
      omega
    · omega
    · exact Or.inr (by omega)

theorem U_at (e q : Nat) (h1 : 2 ^ 52 ≤ q) (h2 : q ≤ 2 ^ 53) : U (e * 2 ^ 52 + q) = q * 2 ^ e := by
  unfold U
  rw [if_neg (by omega)]
  by_cases h : q = 2 ^ 53
  · subst h
    have d : (e * 2 ^ 52 + 2 ^ 53) / 2 ^ 52 = e + 2 := by omega
    have m : (e * 2 ^ 52 + 2 ^ 53) % 2 ^ 52 = 0 := by omega
    rw [d, m]
    have : e + 2 - 1 = e + 1 := by omega
    rw [this, Nat.pow_succ]
    omega
  · have d : (e * 2 ^ 52 + q) / 2 ^ 52 = e + 1 := by omega
    have m : (e * 2 ^ 52 + q) % 2 ^ 52 = q - 2 ^ 52 := by omega
    rw [d, m]
    have : e + 1 - 1 = e := by omega
    have e3 : 2 ^ 52 + (q - 2 ^ 52) = q := by omega
    rw [this, e3]

theorem U_small (q : Nat) (h : q < 2 ^ 52) : U q = q := by unfold U; rw [if_pos h]

theorem U_lt {r s : Nat} (h : r < s) : U r < U s := by
  obtain ⟨e, q, hr, hu, hq, he⟩ := U_form r
  obtain ⟨e', q', hs, hu', hq', he'⟩ := U_form s
  rw [hu, hu']
  have hee : e ≤ e' := by
    rcases Nat.lt_or_ge e' e with h1 | h1
    · exfalso
      have h2 : 2 ^ 52 ≤ q := by omega
      have h3 : (e' + 1) * 2 ^ 52 ≤ e * 2 ^ 52 := Nat.mul_le_mul_right _ h1
      omega
    · exact h1
  rcases Nat.eq_or_lt_of_le hee with h1 | h1
  · subst h1
    exact (Nat.mul_lt_mul_right (Nat.two_pow_pos e)).2 (by omega)
  · have h2 : 2 ^ 52 ≤ q' := by omega
    have h3 : 2 ^ (e + 1) ≤ 2 ^ e' := Nat.pow_le_pow_right (by decide) h1
    have h4 : q * 2 ^ e < 2 ^ 53 * 2 ^ e := (Nat.mul_lt_mul_right (Nat.two_pow_pos e)).2 hq
    have h5 : 2 ^ 52 * 2 ^ (e + 1) ≤ q' * 2 ^ e' := Nat.mul_le_mul h2 h3
    rw [Nat.pow_succ] at h5
    omega

theorem U_le {r s : Nat} (h : r ≤ s) : U r ≤ U s := by
  rcases Nat.eq_or_lt_of_le h with rfl | h
  · exact Nat.le_refl _
  · exact Nat.le_of_lt (U_lt h)
theorem le_of_U {r s : Nat} (h : U r ≤ U s) : r ≤ s := by
  rcases Nat.lt_or_ge s r with h1 | h1
  · have := U_lt h1; omega
  · exact h1
theorem U_inj {r s : Nat} (h : U r = U s) : r = s := Nat.le_antisymm (le_of_U (by omega)) (le_of_U (by omega))
theorem U_zero : U 0 = 0 := rfl

/-! ### Rounding -/
theorem cut_le {neg : Bool} {n d y : Nat} (hd : d ≤ n.log2 + 2) (h : n ≤ y * 2 ^ d) : Toward.even.cut neg n d ≤ y := by
  unfold Toward.cut
  rw [Nat.min_eq_left hd, Nat.one_shiftLeft]
  dsimp only
  have hp : 0 < 2 ^ d := Nat.two_pow_pos d
  have h1 := Nat.div_add_mod n (2 ^ d)
  have h2 : n / 2 ^ d ≤ y := by
    rw [Nat.div_le_iff_le_mul_add_pred hp]
    rw [Nat.mul_comm] at h
    omega
  by_cases h3 : n % 2 ^ d = 0
  · rw [h3]
    have : (decide (2 ^ d < 2 * 0) || (2 ^ d == 2 * 0 && n / 2 ^ d % 2 == 1)) = false := by
      simp
    rw [this]
    simpa using h2
  · have h4 : n / 2 ^ d < y := by
      rcases Nat.lt_or_ge (n / 2 ^ d) y with h5 | h5
      · exact h5
      · exfalso
        have h6 : 2 ^ d * y ≤ 2 ^ d * (n / 2 ^ d) := Nat.mul_le_mul_left _ h5
        rw [Nat.mul_comm y] at h
        omega
    have : ∀ b : Bool, b.toNat ≤ 1 := by decide
    have := this (decide (2 ^ d < 2 * (n % 2 ^ d)) || (2 ^ d == 2 * (n % 2 ^ d) && n / 2 ^ d % 2 == 1))
    omega

theorem le_cut {neg : Bool} {n d y : Nat} (hd : d ≤ n.log2 + 2) (h : y * 2 ^ d ≤ n) : y ≤ Toward.even.cut neg n d := by
  unfold Toward.cut
  rw [Nat.min_eq_left hd, Nat.one_shiftLeft]
  dsimp only
  have : y ≤ n / 2 ^ d := (Nat.le_div_iff_mul_le (Nat.two_pow_pos d)).2 h
  omega

theorem log2_mul_pow (m k : Nat) (h : m ≠ 0) : (m * 2 ^ k).log2 = m.log2 + k := by
  have hp := Nat.two_pow_pos k
  have h0 : m * 2 ^ k ≠ 0 := Nat.mul_ne_zero h (by omega)
  rw [Nat.log2_eq_iff h0, Nat.pow_add]
  have h1 := Nat.log2_self_le h
  have h2 := @Nat.lt_log2_self m
  refine ⟨Nat.mul_le_mul_right _ h1, ?_⟩
  rw [show m.log2 + k + 1 = (m.log2 + 1) + k from by omega, Nat.pow_add]
  exact (Nat.mul_lt_mul_right hp).2 h2

/-- Rounding to the nearest, told by the rungs: monotone, and exact at a rung. -/
theorem nearest_spec (neg : Bool) (m k : Nat) : ∃ R, double.nearest neg m (-1074 + k) = double.word neg R ∧ R ≤ inf ∧
    (∀ r, r < inf → m * 2 ^ k ≤ U r → R ≤ r) ∧ (∀ r, r ≤ inf → U r ≤ m * 2 ^ k → r ≤ R) := by
  by_cases hm : m = 0
  · subst hm
    refine ⟨0, by simp [Format.nearest], Nat.zero_le _, fun r _ _ => Nat.zero_le _, fun r _ h => ?_⟩
    rw [Nat.zero_mul] at h
    exact le_of_U (by rw [U_zero]; exact h)
  · have hlp : double.leastPlace = -1074 := by decide
    have hbin : double.binade = 2 ^ 52 := rfl
    have hinf : double.infRung = inf := rfl
    have hfb : (double.fractionBits : Int) = 52 := rfl
    have hX0 : m * 2 ^ k ≠ 0 := Nat.mul_ne_zero hm (Nat.ne_of_gt (Nat.two_pow_pos k))
    have hlog := log2_mul_pow m k hm
    have hlo := Nat.log2_self_le hX0
    rw [hlog] at hlo
    obtain ⟨d, hd⟩ : ∃ d : Nat, d = m.log2 + k - 52 := ⟨_, rfl⟩
    have hlast : max ((-1074 + (k : Int)) + (m.log2 : Int) - 52) (-1074) = -1074 + (d : Int) := by omega
    obtain ⟨K, hK⟩ : ∃ K, K = Toward.even.cut neg (m <<< (k - d)) (d - k) := ⟨_, rfl⟩
    have hnear : double.nearest neg m (-1074 + k) = double.word neg (min (d * 2 ^ 52 + K) inf) := by
      unfold Format.nearest
      rw [if_neg hm]
      dsimp only
      rw [hfb, hlp, hlast, hbin, hinf, hK]
      have e1 : ((-1074 + (k : Int)) - (-1074 + (d : Int))).toNat = k - d := by omega
      have e2 : ((-1074 + (d : Int)) - (-1074 + (k : Int))).toNat = d - k := by omega
      have e3 : ((-1074 + (d : Int)) - (-1074 : Int)).toNat = d := by omega
      rw [e1, e2, e3]
    have hdrop : d - k ≤ (m <<< (k - d)).log2 + 2 := by
      rw [Nat.shiftLeft_eq, log2_mul_pow _ _ hm]; omega
    -- in units
    have hXd : m * 2 ^ k * 2 ^ (d - k) = m <<< (k - d) * 2 ^ d := by
      rw [Nat.shiftLeft_eq, Nat.mul_assoc, Nat.mul_assoc, ← Nat.pow_add, ← Nat.pow_add]
      congr 2
      omega
    have hup : ∀ y, m * 2 ^ k ≤ y * 2 ^ d → K ≤ y := by
      intro y hy
      rw [hK]
      apply cut_le hdrop
      rcases Nat.le_total d k with h | h
      · have e : d - k = 0 := by omega
        rw [e] at hXd ⊢
        rw [Nat.pow_zero, Nat.mul_one] at hXd ⊢
        rw [hXd] at hy
        exact Nat.le_of_mul_le_mul_right hy (Nat.two_pow_pos d)
      · have e : k - d = 0 := by omega
        rw [e, Nat.shiftLeft_zero]
        have e2 : 2 ^ d = 2 ^ (d - k) * 2 ^ k := by rw [← Nat.pow_add]; congr 1; omega
        rw [e2, ← Nat.mul_assoc] at hy
        exact Nat.le_of_mul_le_mul_right hy (Nat.two_pow_pos k)
    have hdn : ∀ y, y * 2 ^ d ≤ m * 2 ^ k → y ≤ K := by
      intro y hy
      rw [hK]
      apply le_cut hdrop
      rcases Nat.le_total d k with h | h
      · have e : d - k = 0 := by omega
        rw [e] at hXd ⊢
        rw [Nat.pow_zero, Nat.mul_one] at hXd ⊢
        rw [hXd] at hy
        exact Nat.le_of_mul_le_mul_right hy (Nat.two_pow_pos d)
      · have e : k - d = 0 := by omega
        rw [e, Nat.shiftLeft_zero]
        have e2 : 2 ^ d = 2 ^ (d - k) * 2 ^ k := by rw [← Nat.pow_add]; congr 1; omega
        rw [e2, ← Nat.mul_assoc] at hy
        exact Nat.le_of_mul_le_mul_right hy (Nat.two_pow_pos k)
    have hhi : m * 2 ^ k < 2 ^ (m.log2 + k + 1) := by
      have := @Nat.lt_log2_self (m * 2 ^ k)
      rwa [hlog] at this
    have hK53 : K ≤ 2 ^ 53 := by
      apply hup
      have : 2 ^ (m.log2 + k + 1) ≤ 2 ^ (53 + d) := Nat.pow_le_pow_right (by decide) (by omega)
      rw [← Nat.pow_add]
      omega
    have hK52 : 0 < d → 2 ^ 52 ≤ K := by
      intro h0
      apply hdn
      rw [← Nat.pow_add]
      have : 52 + d = m.log2 + k := by omega
      rw [this]
      exact hlo
    have hUR : U (d * 2 ^ 52 + K) = K * 2 ^ d := by
      rcases Nat.eq_zero_or_pos d with h0 | h0
      · rw [h0]
        rcases Nat.lt_or_ge K (2 ^ 52) with h1 | h1
        · rw [Nat.zero_mul, Nat.zero_add, U_small K h1]; omega
        · exact U_at 0 K h1 hK53
      · exact U_at d K (hK52 h0) hK53
    refine ⟨_, hnear, Nat.min_le_right _ _, fun r hr hX => ?_, fun r hr hX => ?_⟩
    · rw [Nat.min_eq_left]
      · apply le_of_U
        rw [hUR]
        obtain ⟨e, q, hre, hu, hq, he⟩ := U_form r
        rw [hu] at hX ⊢
        rcases Nat.lt_or_ge e d with h1 | h1
        · exfalso
          have h2 : q * 2 ^ e < 2 ^ 53 * 2 ^ e := (Nat.mul_lt_mul_right (Nat.two_pow_pos e)).2 hq
          have h3 : 2 ^ (53 + e) ≤ 2 ^ (m.log2 + k) := Nat.pow_le_pow_right (by decide) (by omega)
          rw [Nat.pow_add] at h3
          omega
        · have e2 : 2 ^ e = 2 ^ (e - d) * 2 ^ d := by rw [← Nat.pow_add]; congr 1; omega
          rw [e2, ← Nat.mul_assoc] at hX ⊢
          exact Nat.mul_le_mul_right _ (hup _ hX)
      · -- R ≤ r < inf
        apply Nat.le_of_lt
        refine Nat.lt_of_le_of_lt ?_ hr
        apply le_of_U
        rw [hUR]
        obtain ⟨e, q, hre, hu, hq, he⟩ := U_form r
        rw [hu] at hX ⊢
        rcases Nat.lt_or_ge e d with h1 | h1
        · exfalso
          have h2 : q * 2 ^ e < 2 ^ 53 * 2 ^ e := (Nat.mul_lt_mul_right (Nat.two_pow_pos e)).2 hq
          have h3 : 2 ^ (53 + e) ≤ 2 ^ (m.log2 + k) := Nat.pow_le_pow_right (by decide) (by omega)
          rw [Nat.pow_add] at h3
          omega
        · have e2 : 2 ^ e = 2 ^ (e - d) * 2 ^ d := by rw [← Nat.pow_add]; congr 1; omega
          rw [e2, ← Nat.mul_assoc] at hX ⊢
          exact Nat.mul_le_mul_right _ (hup _ hX)
    · apply Nat.le_min.2 ⟨?_, hr⟩
      apply le_of_U
      rw [hUR]
      obtain ⟨e, q, hre, hu, hq, he⟩ := U_form r
      rw [hu] at hX ⊢
      rcases Nat.lt_or_ge e d with h1 | h1
      · have h2 : q * 2 ^ e < 2 ^ 53 * 2 ^ e := (Nat.mul_lt_mul_right (Nat.two_pow_pos e)).2 hq
        have h3 : 2 ^ (53 + e) ≤ 2 ^ (52 + d) := Nat.pow_le_pow_right (by decide) (by omega)
        have h4 : 2 ^ 52 * 2 ^ d ≤ K * 2 ^ d := Nat.mul_le_mul_right _ (hK52 (by omega))
        rw [Nat.pow_add, Nat.pow_add] at h3
        omega
      · have e2 : 2 ^ e = 2 ^ (e - d) * 2 ^ d := by rw [← Nat.pow_add]; congr 1; omega
        rw [e2, ← Nat.mul_assoc] at hX ⊢
        exact Nat.mul_le_mul_right _ (hdn _ hX)

theorem nearest_exact (neg : Bool) {m k r : Nat} (hr : r < inf) (h : m * 2 ^ k = U r) : double.nearest neg m (-1074 + k) = double.word neg r := by
  obtain ⟨R, hR, _, h1, h2⟩ := nearest_spec neg m k
  have a := h1 r hr (by omega)
  have b := h2 r (Nat.le_of_lt hr) (by omega)
  rw [hR, Nat.le_antisymm a b]

/-! ### Reading a word -/
theorem read_pos {r : Nat} (h : r < inf) : ∃ m k : Nat, double.read r = .number false m (-1074 + k) ∧ m * 2 ^ k = U r ∧ m < 2 ^ 53 := by
  have hlp : double.leastPlace = -1074 := by decide
  have hsw : double.signWeight = 2 ^ 63 := rfl
  have hinf : double.infRung = inf := rfl
  have hbin : double.binade = 2 ^ 52 := rfl
  have hi : inf = 2047 * 2 ^ 52 := rfl
  have e1 : (r / 2 ^ 63 % 2 == 1) = false := by
    have : r / 2 ^ 63 = 0 := Nat.div_eq_of_lt (by omega)
    rw [this]; rfl
  have e2 : r % 2 ^ 63 = r := Nat.mod_eq_of_lt (by omega)
  unfold Format.read
  dsimp only
  rw [hsw, e1, e2, hbin, hlp, hinf]
  by_cases hb : r < 2 ^ 52
  · rw [if_pos hb]
    exact ⟨r, 0, rfl, by rw [U_small r hb]; omega, by omega⟩
  · rw [if_neg hb, if_pos h]
    exact ⟨2 ^ 52 + r % 2 ^ 52, r / 2 ^ 52 - 1, rfl, by unfold U; rw [if_neg hb], by omega⟩

theorem read_neg {r : Nat} (h : r < inf) : ∃ m k : Nat, double.read (double.word true r) = .number true m (-1074 + k) ∧ m * 2 ^ k = U r ∧ m < 2 ^ 53 := by
  have hlp : double.leastPlace = -1074 := by decide
  have hsw : double.signWeight = 2 ^ 63 := rfl
  have hinf : double.infRung = inf := rfl
  have hbin : double.binade = 2 ^ 52 := rfl
  have hi : inf = 2047 * 2 ^ 52 := rfl
  have hw : double.word true r = 2 ^ 63 + r := rfl
  have e1 : ((2 ^ 63 + r) / 2 ^ 63 % 2 == 1) = true := by
    have : (2 ^ 63 + r) / 2 ^ 63 = 1 := by omega
    rw [this]; rfl
  have e2 : (2 ^ 63 + r) % 2 ^ 63 = r := by omega
  unfold Format.read
  dsimp only
  rw [hw, hsw, e1, e2, hbin, hlp, hinf]
  by_cases hb : r < 2 ^ 52
  · rw [if_pos hb]
    exact ⟨r, 0, rfl, by rw [U_small r hb]; omega, by omega⟩
  · rw [if_neg hb, if_pos h]
    exact ⟨2 ^ 52 + r % 2 ^ 52, r / 2 ^ 52 - 1, rfl, by unfold U; rw [if_neg hb], by omega⟩

theorem word_pos (r : Nat) : double.word false r = r := rfl

theorem read_neg_inf : double.read (double.word true inf) = .infinity true := by decide +kernel

/-! ### The operations, told in units -/
theorem min_place (k j : Nat) : min (-1074 + (k : Int)) (-1074 + (j : Int)) = -1074 + (min k j : Nat) := by omega

theorem shl_min (m k j : Nat) : m <<< ((-1074 + (k : Int)) - (-1074 + ((min k j : Nat) : Int))).toNat * 2 ^ min k j = m * 2 ^ k := by
  have e : ((-1074 + (k : Int)) - (-1074 + ((min k j : Nat) : Int))).toNat = k - min k j := by omega
  rw [e, Nat.shiftLeft_eq, Nat.mul_assoc, ← Nat.pow_add]
  congr 2
  omega
theorem shl_min' (m k j : Nat) : m <<< ((-1074 + (j : Int)) - (-1074 + ((min k j : Nat) : Int))).toNat * 2 ^ min k j = m * 2 ^ j := by
  rw [Nat.min_comm]; exact shl_min m j k

theorem add_spec {x y : Nat} (hx : x < inf) (hy : y < inf) : ∃ m k, double.add x y = some (double.nearest false m (-1074 + (k : Nat))) ∧ m * 2 ^ k = U x + U y := by
  obtain ⟨m, k, h1, h2, _⟩ := read_pos hx
  obtain ⟨n, j, h3, h4, _⟩ := read_pos hy
  have a1 := shl_min m k j
  have a2 := shl_min' n k j
  refine ⟨m <<< ((-1074 + (k : Int)) - (-1074 + ((min k j : Nat) : Int))).toNat + n <<< ((-1074 + (j : Int)) - (-1074 + ((min k j : Nat) : Int))).toNat, min k j, ?_, ?_⟩
  · unfold Format.add
    rw [h1, h3]
    simp only [Datum.sum, min_place, signed, Option.map_some, Format.write]
    generalize m <<< ((-1074 + (k : Int)) - (-1074 + ((min k j : Nat) : Int))).toNat = A
    generalize n <<< ((-1074 + (j : Int)) - (-1074 + ((min k j : Nat) : Int))).toNat = B
    have e1 : ((A : Int) + (B : Int)).natAbs = A + B := by omega
    have e2 : (if (A : Int) + (B : Int) = 0 then (false && false) else decide ((A : Int) + (B : Int) < 0)) = false := by
      split
      · rfl
      · simp; omega
    simp only [Bool.false_eq_true, if_false, e1, e2]
  · rw [Nat.add_mul, a1, a2, h2, h4]

theorem sub_pos {x y : Nat} (hx : x < inf) (hy : y < inf) (h : U y ≤ U x) : ∃ m k, double.sub x y = some (double.nearest false m (-1074 + (k : Nat))) ∧ m * 2 ^ k = U x - U y := by
  obtain ⟨m, k, h1, h2, _⟩ := read_pos hx
  obtain ⟨n, j, h3, h4, _⟩ := read_pos hy
  have a1 := shl_min m k j
  have a2 := shl_min' n k j
  refine ⟨m <<< ((-1074 + (k : Int)) - (-1074 + ((min k j : Nat) : Int))).toNat - n <<< ((-1074 + (j : Int)) - (-1074 + ((min k j : Nat) : Int))).toNat, min k j, ?_, ?_⟩
  · unfold Format.sub
    rw [h1, h3]
    simp only [Datum.opposite, Datum.sum, min_place, signed, Option.map_some, Format.write]
    have hle : n <<< ((-1074 + (j : Int)) - (-1074 + ((min k j : Nat) : Int))).toNat ≤ m <<< ((-1074 + (k : Int)) - (-1074 + ((min k j : Nat) : Int))).toNat := by
      apply Nat.le_of_mul_le_mul_right _ (Nat.two_pow_pos (min k j))
      rw [a1, a2, h2, h4]; exact h
    revert hle
    generalize m <<< ((-1074 + (k : Int)) - (-1074 + ((min k j : Nat) : Int))).toNat = A
    generalize n <<< ((-1074 + (j : Int)) - (-1074 + ((min k j : Nat) : Int))).toNat = B
    intro hle
    have e1 : ((A : Int) + -(B : Int)).natAbs = A - B := by omega
    have e2 : (if (A : Int) + -(B : Int) = 0 then (false && true) else decide ((A : Int) + -(B : Int) < 0)) = false := by
      split
      · rfl
      · simp; omega
    simp only [Bool.false_eq_true, if_false, Bool.not_false, if_true, e1, e2]
  · rw [Nat.sub_mul, a1, a2, h2, h4]

theorem sub_neg {x y : Nat} (hx : x < inf) (hy : y < inf) (h : U x < U y) : ∃ m k, double.sub x y = some (double.nearest true m (-1074 + (k : Nat))) ∧ m * 2 ^ k = U y - U x := by
  obtain ⟨m, k, h1, h2, _⟩ := read_pos hx
  obtain ⟨n, j, h3, h4, _⟩ := read_pos hy
  have a1 := shl_min m k j
  have a2 := shl_min' n k j
  refine ⟨n <<< ((-1074 + (j : Int)) - (-1074 + ((min k j : Nat) : Int))).toNat - m <<< ((-1074 + (k : Int)) - (-1074 + ((min k j : Nat) : Int))).toNat, min k j, ?_, ?_⟩
  · unfold Format.sub
    rw [h1, h3]
    simp only [Datum.opposite, Datum.sum, min_place, signed, Option.map_some, Format.write]
    have hle : m <<< ((-1074 + (k : Int)) - (-1074 + ((min k j : Nat) : Int))).toNat < n <<< ((-1074 + (j : Int)) - (-1074 + ((min k j : Nat) : Int))).toNat := by
      apply Nat.lt_of_mul_lt_mul_right (a := 2 ^ min k j)
      rw [a1, a2, h2, h4]; exact h
    revert hle
    generalize m <<< ((-1074 + (k : Int)) - (-1074 + ((min k j : Nat) : Int))).toNat = A
    generalize n <<< ((-1074 + (j : Int)) - (-1074 + ((min k j : Nat) : Int))).toNat = B
    intro hle
    have e1 : ((A : Int) + -(B : Int)).natAbs = B - A := by omega
    have e2 : (if (A : Int) + -(B : Int) = 0 then (false && true) else decide ((A : Int) + -(B : Int) < 0)) = true := by
      rw [if_neg (by omega)]
      simp; omega
    simp only [Bool.false_eq_true, if_false, Bool.not_false, if_true, e1, e2]
  · rw [Nat.sub_mul, a1, a2, h2, h4]

/-- The order of two words that are not negative. -/
theorem order_pos {x y : Nat} (hx : x < inf) (hy : y < inf) : double.order x y = some (compare (U x) (U y)) := by
  obtain ⟨m, k, h1, h2, _⟩ := read_pos hx
  obtain ⟨n, j, h3, h4, _⟩ := read_pos hy
  have a1 := shl_min m k j
  have a2 := shl_min' n k j
  unfold Format.order
  rw [h1, h3]
  simp only [Datum.order, min_place, signed, Bool.false_eq_true, if_false]
  rw [← h2, ← h4, ← a1, ← a2]
  generalize m <<< ((-1074 + (k : Int)) - (-1074 + ((min k j : Nat) : Int))).toNat = A
  generalize n <<< ((-1074 + (j : Int)) - (-1074 + ((min k j : Nat) : Int))).toNat = B
  have hp := Nat.two_pow_pos (min k j)
  congr 1
  rcases Nat.lt_trichotomy A B with h | h | h
  · rw [Int.compare_eq_lt.2 (by omega), Nat.compare_eq_lt.2 ((Nat.mul_lt_mul_right hp).2 h)]
  · subst h; rw [Int.compare_eq_eq.2 rfl, Nat.compare_eq_eq.2 rfl]
  · rw [Int.compare_eq_gt.2 (by omega), Nat.compare_eq_gt.2 ((Nat.mul_lt_mul_right hp).2 h)]

/-- A negative word is not above one that is not negative. -/
theorem order_neg {R y : Nat} (hR : R ≤ inf) (hy : y < inf) : (double.order (double.word true R) y == some .gt) = false := by
  obtain ⟨n, j, h3, h4, _⟩ := read_pos hy
  unfold Format.order
  rw [h3]
  rcases Nat.eq_or_lt_of_le hR with rfl | h
  · rw [read_neg_inf]; rfl
  · obtain ⟨m, k, h1, h2, _⟩ := read_neg h
    rw [h1]
    simp only [Datum.order, min_place, signed, Bool.false_eq_true, if_false, if_true]
    generalize m <<< ((-1074 + (k : Int)) - (-1074 + ((min k j : Nat) : Int))).toNat = A
    generalize n <<< ((-1074 + (j : Int)) - (-1074 + ((min k j : Nat) : Int))).toNat = B
    have : compare (-(A : Int)) (B : Int) ≠ .gt := by
      intro h
      rw [Int.compare_eq_gt] at h
      omega
    cases hc : compare (-(A : Int)) (B : Int)
    · rfl
    · rfl
    · exact absurd hc this

end Fl
