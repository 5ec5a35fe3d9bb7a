import Derived.Test.Qxb6603030aFloat
namespace Fl
open Ieee
set_option exponentiation.threshold 3000

theorem nearest_word (neg : Bool) (m : Nat) (p : Int) : ∃ R, R ≤ inf ∧ double.nearest neg m p = double.word neg R := by
  unfold Format.nearest
  by_cases h : m = 0
  · rw [if_pos h]; exact ⟨0, Nat.zero_le _, rfl⟩
  · rw [if_neg h]; exact ⟨_, Nat.min_le_right _ _, rfl⟩

theorem exists_rung (a b : Nat) (ha : a < 2 ^ 53) (hb : 52 ≤ b) (hb2 : b ≤ 1200) : ∃ r, r < inf ∧ U r = a * 2 ^ b := by
  by_cases h0 : a = 0
  · exact ⟨0, by decide, by rw [h0, U_zero]; omega⟩
  · have hl1 := Nat.log2_self_le h0
    have hl2 := @Nat.lt_log2_self a
    have hl3 : a.log2 ≤ 52 := by
      have := (Nat.log2_lt h0).2 ha
      omega
    have hq1 : 2 ^ 52 ≤ a * 2 ^ (52 - a.log2) := by
      have : 2 ^ a.log2 * 2 ^ (52 - a.log2) ≤ a * 2 ^ (52 - a.log2) := Nat.mul_le_mul_right _ hl1
      rw [← Nat.pow_add, show a.log2 + (52 - a.log2) = 52 from by omega] at this
      exact this
    have hq2 : a * 2 ^ (52 - a.log2) < 2 ^ 53 := by
      have : a * 2 ^ (52 - a.log2) < 2 ^ (a.log2 + 1) * 2 ^ (52 - a.log2) := (Nat.mul_lt_mul_right (Nat.two_pow_pos _)).2 hl2
      rw [← Nat.pow_add, show a.log2 + 1 + (52 - a.log2) = 53 from by omega] at this
      exact this
    refine ⟨(b - (52 - a.log2)) * 2 ^ 52 + a * 2 ^ (52 - a.log2), ?_, ?_⟩
    · have h1 : (b - (52 - a.log2)) * 2 ^ 52 ≤ 1200 * 2 ^ 52 := Nat.mul_le_mul_right _ (by omega)
      have hi : inf = 2047 * 2 ^ 52 := rfl
      omega
    · rw [U_at _ _ hq1 (by omega), Nat.mul_assoc, ← Nat.pow_add]
      congr 2
      omega

/-- The double of a whole number. -/
def F (n : Nat) : Nat := double.nearest false n 0
theorem F_spec {n : Nat} (h : n < 2 ^ 53) : F n < inf ∧ U (F n) = n * 2 ^ 1074 := by
  obtain ⟨r, hr, hu⟩ := exists_rung n 1074 h (by decide) (by decide)
  have e : F n = r := by
    unfold F
    have := nearest_exact false (m := n) (k := 1074) hr hu.symm
    rw [word_pos] at this
    exact this
  rw [e]
  exact ⟨hr, hu⟩

def one : Nat := 4607182418800017408
def three : Nat := 4613937818241073152
def tiny : Nat := 4368491638549381120
def huge : Nat := 4845873199050653696
theorem one_spec : one < inf ∧ U one = 2 ^ 1074 := by decide +kernel
theorem read_three : double.read three = .number false (2 ^ 52 + 2 ^ 51) (-1074 + (1023 : Nat)) := by decide +kernel
theorem read_tiny : double.read tiny = .number false (2 ^ 52) (-1074 + (969 : Nat)) := by decide +kernel
theorem read_huge : double.read huge = .number false (2 ^ 52) (-1074 + (1075 : Nat)) := by decide +kernel

/-- A product with a constant c, whose reading is known, where the product's last place is no lower than the format's. -/
theorem mul_raw {m k n j : Nat} {x c : Nat} (hx : double.read x = .number false m (-1074 + (k : Int))) (hc : double.read c = .number false n (-1074 + (j : Int))) (h : m = 0 ∨ 1074 ≤ k + j) :
    ∃ M K, double.mul x c = some (double.nearest false M (-1074 + (K : Nat))) ∧ double.mul c x = some (double.nearest false M (-1074 + (K : Nat))) ∧ M * 2 ^ K * 2 ^ 1074 = (m * 2 ^ k) * (n * 2 ^ j) := by
  rcases h with h | h
  · subst h
    refine ⟨0, 0, ?_, ?_, by simp⟩
    · unfold Format.mul
      rw [hx, hc]
      simp [Datum.product, Format.write, Format.nearest]
    · unfold Format.mul
      rw [hx, hc]
      simp [Datum.product, Format.write, Format.nearest]
  · refine ⟨m * n, k + j - 1074, ?_, ?_, ?_⟩
    · unfold Format.mul
      rw [hx, hc]
      have e : (-1074 + (k : Int)) + (-1074 + (j : Int)) = -1074 + ((k + j - 1074 : Nat) : Int) := by omega
      simp only [Datum.product, Format.write, Option.map_some, e]
      rfl
    · unfold Format.mul
      rw [hx, hc]
      have e : (-1074 + (j : Int)) + (-1074 + (k : Int)) = -1074 + ((k + j - 1074 : Nat) : Int) := by omega
      simp only [Datum.product, Format.write, Option.map_some, e, Nat.mul_comm n m]
      rfl
    · rw [Nat.mul_assoc, ← Nat.pow_add, show k + j - 1074 + 1074 = k + j from by omega, Nat.pow_add]
      simp only [Nat.mul_assoc, Nat.mul_left_comm]

theorem place_ge {m k A X : Nat} (hX : m * 2 ^ k = X) (hm : m < 2 ^ 53) (h : 2 ^ A ≤ X) : A < 53 + k := by
  rcases Nat.lt_or_ge A (53 + k) with h1 | h1
  · exact h1
  · exfalso
    have h2 : m * 2 ^ k < 2 ^ 53 * 2 ^ k := (Nat.mul_lt_mul_right (Nat.two_pow_pos k)).2 hm
    have h3 : 2 ^ (53 + k) ≤ 2 ^ A := Nat.pow_le_pow_right (by decide) h1
    rw [Nat.pow_add] at h3
    omega

theorem cancel {a b c : Nat} (h : a * 2 ^ c = b * 2 ^ c) : a = b := Nat.eq_of_mul_eq_mul_right (Nat.two_pow_pos c) h

/-- float64(first) * 2^-53, exact. -/
theorem mul_tiny {a : Nat} (ha : a < 2 ^ 53) : ∃ P, double.mul (F a) tiny = some P ∧ P < inf ∧ U P = a * 2 ^ 1021 := by
  obtain ⟨h1, h2⟩ := F_spec ha
  obtain ⟨m, k, hr, hu, hm⟩ := read_pos h1
  have hk : m = 0 ∨ 1074 ≤ k + 969 := by
    by_cases h0 : a = 0
    · left
      rw [h2, h0, Nat.zero_mul] at hu
      rcases Nat.mul_eq_zero.1 hu with h | h
      · exact h
      · have := Nat.two_pow_pos k; omega
    · right
      have : 1074 < 53 + k := place_ge hu hm (by rw [h2]; exact Nat.le_mul_of_pos_left _ (by omega))
      omega
  obtain ⟨M, K, hmul, _, hval⟩ := mul_raw hr read_tiny hk
  obtain ⟨r, hri, hru⟩ := exists_rung a 1021 ha (by decide) (by decide)
  have hMK : M * 2 ^ K = a * 2 ^ 1021 := by
    apply cancel (c := 1074)
    rw [hval, hu, h2, ← Nat.pow_add 2 52 969, Nat.mul_right_comm]
  refine ⟨r, ?_, hri, hru⟩
  rw [hmul, nearest_exact false hri (by rw [hMK, hru]), word_pos]

/-- The answer of exp: whole + first * 2^-53. -/
theorem add_answer {wh a P : Nat} (hw : wh < 4096) (ha : a < 2 ^ 53) (hP : P < inf) (hu : U P = a * 2 ^ 1021) :
    ∃ V, double.add (F wh) P = some V ∧ V < inf ∧ (wh = 0 → U V = a * 2 ^ 1021) ∧ (1 ≤ wh → 2 ^ 1074 ≤ U V ∧ U V ≤ (wh + 1) * 2 ^ 1074) := by
  obtain ⟨h1, h2⟩ := F_spec (n := wh) (by omega)
  obtain ⟨h3, h4⟩ := F_spec (n := wh + 1) (by omega)
  obtain ⟨h5, h6⟩ := one_spec
  obtain ⟨m, k, hadd, hsum⟩ := add_spec h1 hP
  rw [h2, hu] at hsum
  have hup : wh * 2 ^ 1074 + a * 2 ^ 1021 ≤ (wh + 1) * 2 ^ 1074 := by
    have e : (2 : Nat) ^ 1074 = 2 ^ 53 * 2 ^ 1021 := by rw [← Nat.pow_add]
    have : a * 2 ^ 1021 ≤ 2 ^ 53 * 2 ^ 1021 := Nat.mul_le_mul_right _ (by omega)
    rw [Nat.add_mul, Nat.one_mul]
    exact Nat.add_le_add_left (by rw [e]; exact this) _
  obtain ⟨R, hR, hRi, hle, hge⟩ := nearest_spec false m k
  have hRup : R ≤ F (wh + 1) := hle _ h3 (by rw [h4, hsum]; exact hup)
  refine ⟨R, by rw [hadd, hR, word_pos], by omega, fun h0 => ?_, fun h1 => ⟨?_, ?_⟩⟩
  · subst h0
    obtain ⟨r, hri, hru⟩ := exists_rung a 1021 ha (by decide) (by decide)
    have hX : m * 2 ^ k = U r := by rw [hsum, hru]; omega
    have : R = r := Nat.le_antisymm (hle r hri (by omega)) (hge r (Nat.le_of_lt hri) (by omega))
    rw [this, hru]
  · rw [← h6]
    apply U_le
    apply hge _ (Nat.le_of_lt h5)
    rw [h6, hsum]
    exact Nat.le_trans (Nat.le_mul_of_pos_left _ h1) (Nat.le_add_right _ _)
  · rw [← h4]
    exact U_le hRup

theorem order_zero {V : Nat} (h : V < inf) : (double.order V 0 == some .gt || double.order V 0 == some .eq) = true := by
  rw [order_pos h (by decide), U_zero]
  rcases Nat.eq_zero_or_pos (U V) with h0 | h0
  · rw [h0]; rfl
  · rw [Nat.compare_eq_gt.2 h0]; rfl

theorem order_lt {x y : Nat} (hx : x < inf) (hy : y < inf) (h : U x < U y) : (double.order x y == some .lt) = true := by
  rw [order_pos hx hy, Nat.compare_eq_lt.2 h]; rfl
theorem order_not_lt {x y : Nat} (hx : x < inf) (hy : y < inf) (h : U y ≤ U x) : (double.order x y == some .lt) = false := by
  rw [order_pos hx hy]
  rcases Nat.eq_or_lt_of_le h with h | h
  · rw [Nat.compare_eq_eq.2 h.symm]; rfl
  · rw [Nat.compare_eq_gt.2 h]; rfl
theorem order_not_gt {x y : Nat} (hx : x < inf) (hy : y < inf) (h : U x ≤ U y) : (double.order x y == some .gt) = false := by
  rw [order_pos hx hy]
  rcases Nat.eq_or_lt_of_le h with h | h
  · rw [Nat.compare_eq_eq.2 h]; rfl
  · rw [Nat.compare_eq_lt.2 h]; rfl
theorem order_refl {x : Nat} (hx : x < inf) : (double.order x x == some .eq) = true := by
  rw [order_pos hx hx, Nat.compare_eq_eq.2 rfl]; rfl

/-- 3 * (v - 1) is not above n - 2. -/
theorem bound_neg {V n : Nat} (hV : V < inf) (h : U V < 2 ^ 1074) (hn : n < 2 ^ 53) :
    ∃ T T3, double.sub V one = some T ∧ double.mul three T = some T3 ∧ (double.order T3 (F n) == some .gt) = false := by
  obtain ⟨h5, h6⟩ := one_spec
  obtain ⟨m, k, hs, _⟩ := sub_neg hV h5 (by rw [h6]; exact h)
  obtain ⟨R, hR, hRi, _, _⟩ := nearest_spec true m k
  rw [hR] at hs
  have hT : ∃ R', R' ≤ inf ∧ double.mul three (double.word true R) = some (double.word true R') := by
    rcases Nat.eq_or_lt_of_le hRi with rfl | hlt
    · exact ⟨inf, Nat.le_refl _, by decide +kernel⟩
    · obtain ⟨m', k', hr, _, _⟩ := read_neg hlt
      obtain ⟨R', hR', hw⟩ := nearest_word true ((2 ^ 52 + 2 ^ 51) * m') ((-1074 + ((1023 : Nat) : Int)) + (-1074 + (k' : Int)))
      refine ⟨R', hR', ?_⟩
      unfold Format.mul
      rw [hr, read_three]
      rw [← hw]
      rfl
  obtain ⟨R', hR', hmul⟩ := hT
  exact ⟨_, _, hs, hmul, order_neg hR' (F_spec hn).1⟩

theorem bound_pos {V wh n : Nat} (hw : wh < 4096) (hV : V < inf) (h1 : 2 ^ 1074 ≤ U V) (h2 : U V ≤ (wh + 1) * 2 ^ 1074) (hn : n < 2 ^ 53) (hwn : 3 * wh ≤ n) :
    ∃ T T3, double.sub V one = some T ∧ double.mul three T = some T3 ∧ (double.order T3 (F n) == some .gt) = false := by
  obtain ⟨h5, h6⟩ := one_spec
  obtain ⟨f1, f2⟩ := F_spec (n := wh) (by omega)
  obtain ⟨g1, g2⟩ := F_spec (n := 3 * wh) (by omega)
  obtain ⟨n1, n2⟩ := F_spec hn
  obtain ⟨m, k, hs, hval⟩ := sub_pos hV h5 (by rw [h6]; exact h1)
  rw [h6] at hval
  have hle : m * 2 ^ k ≤ wh * 2 ^ 1074 := by
    rw [hval]; rw [Nat.add_mul, Nat.one_mul] at h2; omega
  obtain ⟨T, hT, hTi, hup, hdn⟩ := nearest_spec false m k
  rw [hT, word_pos] at hs
  have hTF : T ≤ F wh := hup _ f1 (by rw [f2]; exact hle)
  have hTinf : T < inf := by omega
  have hUT : U T ≤ wh * 2 ^ 1074 := by rw [← f2]; exact U_le hTF
  -- T is 0 or not tiny
  have hbig : T = 0 ∨ 2 ^ 1022 ≤ U T := by
    obtain ⟨e, q, hre, hu, hq, he⟩ := U_form V
    have he1 : 1022 ≤ e := by
      have := place_ge hu.symm hq h1
      omega
    have hdiv : m * 2 ^ k = (q * 2 ^ (e - 1022) - 2 ^ 52) * 2 ^ 1022 := by
      rw [hval, hu, Nat.sub_mul, Nat.mul_assoc, ← Nat.pow_add, ← Nat.pow_add]
      rw [show e - 1022 + 1022 = e from by omega]
    rcases Nat.eq_zero_or_pos (q * 2 ^ (e - 1022) - 2 ^ 52) with h0 | h0
    · left
      rw [h0, Nat.zero_mul] at hdiv
      have := hup 0 (by decide) (by rw [hdiv]; exact Nat.zero_le _)
      omega
    · right
      obtain ⟨r, hri, hru⟩ := exists_rung 1 1022 (by decide) (by decide) (by decide)
      rw [Nat.one_mul] at hru
      rw [← hru]
      apply U_le
      apply hdn _ (Nat.le_of_lt hri)
      rw [hru, hdiv]
      exact Nat.le_mul_of_pos_left _ h0
  obtain ⟨m', k', hr, hu', hm'⟩ := read_pos hTinf
  have hk : m' = 0 ∨ 1074 ≤ k' + 1023 := by
    rcases hbig with h0 | h0
    · left
      rw [h0, U_zero] at hu'
      rcases Nat.mul_eq_zero.1 hu' with h | h
      · exact h
      · have := Nat.two_pow_pos k'; omega
    · right
      have := place_ge hu' hm' h0
      omega
  obtain ⟨M, K, _, hmul, hMK⟩ := mul_raw hr read_three hk
  have hMv : M * 2 ^ K = 3 * U T := by
    apply cancel (c := 1074)
    rw [hMK, hu']
    have e : (2 ^ 52 + 2 ^ 51) * 2 ^ 1023 = 3 * 2 ^ 1074 := by
      rw [show (2 ^ 52 + 2 ^ 51 : Nat) = 3 * 2 ^ 51 from by decide, Nat.mul_assoc, ← Nat.pow_add]
    rw [e, Nat.mul_left_comm, Nat.mul_assoc]
  obtain ⟨T3, hT3, hT3i, hup3, _⟩ := nearest_spec false M K
  have h3 : T3 ≤ F (3 * wh) := hup3 _ g1 (by
    rw [hMv, g2, Nat.mul_assoc]; exact Nat.mul_le_mul_left _ hUT)
  refine ⟨T, T3, hs, by rw [hmul, hT3, word_pos], order_not_gt (by omega) n1 ?_⟩
  refine Nat.le_trans (U_le h3) ?_
  rw [g2, n2]
  exact Nat.mul_le_mul_right _ hwn

/-- v * 2^53, exact, where v = a * 2^-53. -/
theorem mul_huge {V a : Nat} (hV : V < inf) (ha : a < 2 ^ 53) (hu : U V = a * 2 ^ 1021) : double.mul V huge = some (F a) := by
  obtain ⟨h1, h2⟩ := F_spec ha
  obtain ⟨m, k, hr, hm, _⟩ := read_pos hV
  obtain ⟨M, K, hmul, _, hMK⟩ := mul_raw hr read_huge (Or.inr (by omega))
  have hMv : M * 2 ^ K = a * 2 ^ 1074 := by
    apply cancel (c := 1074)
    rw [hMK, hm, hu, Nat.mul_assoc, ← Nat.pow_add, ← Nat.pow_add, Nat.mul_assoc, ← Nat.pow_add]
  rw [hmul, nearest_exact false h1 (by rw [hMv, h2]), word_pos]

/-- The double of a whole number, cut to a whole number. -/
theorem toInt_F {a : Nat} (ha : a < 2 ^ 53) : (double.read (F a)).toInt .zero = some (a : Int) := by
  obtain ⟨h1, h2⟩ := F_spec ha
  obtain ⟨m, k, hr, hm, _⟩ := read_pos h1
  rw [hr]
  rw [h2] at hm
  have hcut : Toward.zero.cut false (m <<< (-1074 + (k : Int)).toNat) (-(-1074 + (k : Int))).toNat = a := by
    unfold Toward.cut
    dsimp only
    rw [Bool.toNat_false, Nat.add_zero]
    rcases Nat.le_total 1074 k with h | h
    · have e1 : (-1074 + (k : Int)).toNat = k - 1074 := by omega
      have e2 : (-(-1074 + (k : Int))).toNat = 0 := by omega
      rw [e1, e2, Nat.zero_min, Nat.one_shiftLeft, Nat.pow_zero, Nat.div_one, Nat.shiftLeft_eq]
      apply cancel (c := 1074)
      rw [← hm, Nat.mul_assoc, ← Nat.pow_add]
      congr 2
      omega
    · have e1 : (-1074 + (k : Int)).toNat = 0 := by omega
      have e2 : (-(-1074 + (k : Int))).toNat = 1074 - k := by omega
      rw [e1, e2, Nat.shiftLeft_zero]
      have hma : m = a * 2 ^ (1074 - k) := by
        apply cancel (c := k)
        rw [hm, Nat.mul_assoc, ← Nat.pow_add]
        congr 2
        omega
      by_cases h0 : a = 0
      · rw [hma, h0, Nat.zero_mul, Nat.zero_div]
      · have hl : 1074 - k ≤ m.log2 + 2 := by
          rw [hma, log2_mul_pow _ _ h0]; omega
        rw [Nat.min_eq_left hl, Nat.one_shiftLeft, hma, Nat.mul_div_cancel _ (Nat.two_pow_pos _)]
  simp only [Datum.toInt, Datum.integral, hcut, signed, Bool.false_eq_true, if_false, Nat.shiftLeft_zero]

/-- Counting the whole trials. -/
theorem add_one {n : Nat} (h : n < 4096) : double.add (F n) one = some (F (n + 1)) := by
  obtain ⟨h1, h2⟩ := F_spec (n := n) (by omega)
  obtain ⟨h3, h4⟩ := F_spec (n := n + 1) (by omega)
  obtain ⟨h5, h6⟩ := one_spec
  obtain ⟨m, k, hadd, hsum⟩ := add_spec h1 h5
  rw [hadd, nearest_exact false h3 (by rw [hsum, h2, h4, h6, Nat.add_mul, Nat.one_mul]), word_pos]
theorem F_zero : F 0 = 0 := rfl

end Fl
