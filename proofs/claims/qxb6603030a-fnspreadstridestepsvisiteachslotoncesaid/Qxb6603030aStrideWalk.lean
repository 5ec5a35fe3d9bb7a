import Derived.Test.Qxb6603030aRows
import Derived.Test.Qxb6603030aStridePlain
import Derived.WalkKit
import Derived.WalkSpells
import Derived.WalkLawsBesides
import Derived.Outline
namespace Go.Proofs.Qxb6603030a
open Go.RowKit

theorem ret_bool {a b : Bool} (h : a = b) : Ending.returned (.bool a) = .returned (.bool b) := by rw [h]

set_option maxHeartbeats 400000 in
theorem gcd_any (a b : Nat) (w : World) (ha : a < 39181802686993) (hb : b < 39181802686993) :
    Calls Try.prog 14 #[.int .i64 (a : Int), .int .i64 (b : Int)] w fun e w' => e = .returned (.int .i64 (Nat.gcd a b : Int)) ∧ ∃ n, w' = w.drewN n := by
  go_enter Try.func14, Try.ntmps14
  go_wp2
  go_loopw [0, 1] (fun x y wr => ∃ (p q n : Nat), x = .int .i64 (p : Int) ∧ y = .int .i64 (q : Int) ∧ p < 39181802686993 ∧ q < 39181802686993 ∧ Nat.gcd p q = Nat.gcd a b ∧ wr = w.drewN n) (fun _ y _ => (intOf y).toNat)
  case atStart => exact ⟨a, b, 0, rfl, rfl, ha, hb, rfl, rfl⟩
  case round =>
    obtain ⟨p, q, n, rfl, rfl, hp, hq, hg, rfl⟩ := hrel
    have HG : Hid (Nat.gcd p q = Nat.gcd a b) := hg
    clear hg
    by_cases h0 : q = 0
    · subst h0
      go_wp2
      go_ret
      exact ⟨congrArg (fun x : Nat => Ending.returned (.int .i64 (x : Int))) (by rw [← HG.out, Nat.gcd_zero_right]), n, rfl⟩
    · have h0' : ((q : Int) != 0) = true := by rw [bne_iff_ne]; omega
      have hq0 : (0 : Int) < (q : Int) := by omega
      have hpi : (p : Int) < 39181802686993 := by omega
      have hqi : (q : Int) < 39181802686993 := by omega
      go_wp2
      go_region
      go_wp2
      go_roundw
      case rel =>
        refine ⟨q, p % q, n + 1, rfl, by go_num, hq, Nat.lt_trans (Nat.mod_lt _ (by omega)) hq, ?_, rfl⟩
        rw [← HG.out, Nat.gcd_comm p q, Nat.gcd_rec q p, Nat.gcd_comm]
      case measure =>
        have := Nat.mod_lt p (show 0 < q by omega)
        simp [intOf]
        omega

set_option maxHeartbeats 400000 in
theorem stride_any (a : Nat) (w : World) (ha : a < 39181802686993) (h1 : 1 ≤ a) :
    Calls Try.prog 11 #[.int .i64 (a : Int)] w fun e w' => ∃ s : Nat, e = .returned (.int .i64 (s : Int)) ∧ Stride.Least s a ∧ ∃ n, w' = w.drewN n := by
  go_enter Try.func11, Try.ntmps11
  go_wp2
  go_loopw [3] (fun x wr => ∃ (t n : Nat), x = .int .i64 (t : Int) ∧ 37 ≤ t ∧ t ≤ 67 ∧ (∀ u, 37 ≤ u → u < t → Nat.gcd u a ≠ 1) ∧ wr = w.drewN n) (fun x _ => 67 - (intOf x).toNat)
  case atStart => exact ⟨37, 0, rfl, by omega, by omega, fun u h1 h2 => absurd h2 (by omega), rfl⟩
  case round =>
    obtain ⟨t, n, rfl, ht1, ht2, hall, rfl⟩ := hrel
    have HA : Hid (∀ u, 37 ≤ u → u < t → Nat.gcd u a ≠ 1) := hall
    clear hall
    go_wp2_with fail
    refine (gcd_any t a _ (by omega) ha).mono ?_
    rintro e w1 ⟨rfl, m, rfl⟩
    by_cases hg : Nat.gcd t a = 1
    · rw [hg]
      go_wp2
      go_ret
      exact ⟨t, rfl, ⟨ht1, ht2, hg, HA.out⟩, n + m, rfl⟩
    · have hg' : (((Nat.gcd t a : Nat) : Int) != 1) = true := by rw [bne_iff_ne]; omega
      have HN : Hid (∀ u, 37 ≤ u → u < t + 1 → Nat.gcd u a ≠ 1) := by
        intro u h3 h4
        by_cases e : u = t
        · subst e; exact hg
        · exact HA.out u h3 (by omega)
      have hlt : t < 67 := by
        rcases Nat.lt_or_ge t 67 with h | h
        · exact h
        · exact absurd (fun u h3 h4 => HN.out u h3 (by omega)) (Stride.exists_coprime a h1 ha)
      clear hg
      generalize Nat.gcd t a = g at *
      go_wp2
      go_roundw
      case rel => exact ⟨t + 1, n + m, by go_num, by omega, by omega, HN.out, rfl⟩
      case measure => simp [intOf]; omega

set_option maxHeartbeats 400000 in
theorem zzStride_any (a : Nat) (w : World) (ha : a < 39181802686993) (h1 : 1 ≤ a) :
    Calls Try.prog 6 #[.int .i64 (a : Int)] w fun e w' => ∃ s : Nat, e = .returned (.int .i64 (s : Int)) ∧ Stride.Least s a ∧ ∃ n, w' = w.drewN n := by
  go_enter Try.func6, Try.ntmps6
  go_wp2_with fail
  refine (stride_any a _ ha h1).mono ?_
  rintro e w1 ⟨s, rfl, hl, n, rfl⟩
  go_wp2
  go_ret
  exact ⟨s, rfl, hl, n, rfl⟩

set_option maxHeartbeats 400000 in
theorem coprime_any (t a : Nat) (w : World) (ha : a < 39181802686993) (ht1 : 1 ≤ t) (ht2 : t ≤ 67) :
    Calls Try.prog 7 #[.int .i64 (t : Int), .int .i64 (a : Int)] w fun e w' => e = .returned (.bool (Stride.copB t a)) ∧ w' = w := by
  go_enter Try.func7, Try.ntmps7
  go_wp2
  go_loop [5] (fun x => ∃ d : Nat, x = .int .i64 (d : Int) ∧ 2 ≤ d ∧ d ≤ 68 ∧ (∀ c, 2 ≤ c → c < d → ¬ (c ∣ t ∧ c ∣ a))) (fun x => 68 - (intOf x).toNat)
  case atStart => exact ⟨2, rfl, by omega, by omega, fun c h1 h2 => absurd h2 (by omega)⟩
  case round =>
    obtain ⟨d, rfl, hd1, hd2, hall⟩ := hrel
    have HA : Hid (∀ c, 2 ≤ c → c < d → ¬ (c ∣ t ∧ c ∣ a)) := hall
    clear hall
    have hdi : (2 : Int) ≤ (d : Int) := by omega
    have hai : (a : Int) < 39181802686993 := by omega
    by_cases hle : d ≤ t
    · have hle' : (d : Int) ≤ (t : Int) := by omega
      by_cases h1 : d ∣ t
      · have e1 : ((t : Int) % (d : Int) == 0) = true := by
          rw [beq_iff_eq]; have := Nat.mod_eq_zero_of_dvd h1; omega
        by_cases h2 : d ∣ a
        · have e2 : ((a : Int) % (d : Int) == 0) = true := by
            rw [beq_iff_eq]; have := Nat.mod_eq_zero_of_dvd h2; omega
          have HN : Hid (Stride.copB t a = false) := Stride.copB_false (Stride.not_cop hd1 h1 h2)
          clear h1 h2
          go_wp2
          go_ret
          exact ⟨ret_bool HN.out.symm, rfl⟩
        · have e2 : ((a : Int) % (d : Int) == 0) = false := by
            rw [beq_eq_false_iff_ne]; intro h; exact h2 (Nat.dvd_of_mod_eq_zero (by omega))
          have HN : Hid (∀ c, 2 ≤ c → c < d + 1 → ¬ (c ∣ t ∧ c ∣ a)) := by
            intro c h3 h4 h5
            by_cases e : c = d
            · subst e; exact h2 h5.2
            · exact HA.out c h3 (by omega) h5
          clear h1 h2
          go_wp2
          go_round
          case rel => exact ⟨d + 1, by go_num, by omega, by omega, HN.out⟩
          case measure => simp [intOf]; omega
      · have e1 : ((t : Int) % (d : Int) == 0) = false := by
          rw [beq_eq_false_iff_ne]; intro h; exact h1 (Nat.dvd_of_mod_eq_zero (by omega))
        have HN : Hid (∀ c, 2 ≤ c → c < d + 1 → ¬ (c ∣ t ∧ c ∣ a)) := by
          intro c h3 h4 h5
          by_cases e : c = d
          · subst e; exact h1 h5.1
          · exact HA.out c h3 (by omega) h5
        clear h1
        go_wp2
        go_round
        case rel => exact ⟨d + 1, by go_num, by omega, by omega, HN.out⟩
        case measure => simp [intOf]; omega
    · have hle' : ¬ (d : Int) ≤ (t : Int) := by omega
      have HN : Hid (Stride.copB t a = true) := Stride.copB_true (Stride.cop_of ht1 (fun c h3 h4 => HA.out c h3 (by omega)))
      go_wp2
      go_ret
      exact ⟨ret_bool HN.out.symm, rfl⟩

end Go.Proofs.Qxb6603030a
