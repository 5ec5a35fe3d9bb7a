import Derived.Test.Qxb6603764aAgrees
namespace Go.Proofs.Qxb6603764a
open Go.RowKit

set_option maxHeartbeats 400000 in
theorem kinds_rw (k : Int) (hk : k = 1 ∨ k = 2) (w : World) :
    Calls Try.prog 16 #[.int .i64 k] w fun e w' => e = .returned (.slice (some ⟨w.heap.size, 0, none⟩) 2 2) ∧ w' = w.alloc (.cells #[.int .i64 1, .int .i64 2] 27) := by
  rcases hk with rfl | rfl
  · go_enter Try.func16, Try.ntmps16
    go_wp2
    go_ret
    exact ⟨rfl, rfl⟩
  · go_enter Try.func16, Try.ntmps16
    go_wp2
    go_ret
    exact ⟨rfl, rfl⟩

set_option maxHeartbeats 400000 in
theorem kinds_one (k : Int) (hk1 : k ≠ 1) (hk2 : k ≠ 2) (w : World) :
    Calls Try.prog 16 #[.int .i64 k] w fun e w' => e = .returned (.slice (some ⟨w.heap.size, 0, none⟩) 1 1) ∧ w' = w.alloc (.cells #[.int .i64 k] 27) := by
  have h1 : (k == 1) = false := by simpa using hk1
  have h2 : (k == 2) = false := by simpa using hk2
  go_enter Try.func16, Try.ntmps16
  go_wp2
  go_ret
  exact ⟨rfl, rfl⟩

/-- The kinds of one queue lie in a new row: m of them, Z 0, .. -/
def KindsPost (k : Int) (w : World) (e : Ending) (w' : World) : Prop :=
  ∃ (m : Nat) (Z : Nat → Int), e = .returned (.slice (some ⟨w.heap.size, 0, none⟩) m m) ∧ m ≤ 2 ∧ Below w.heap.size w w' ∧ w.heap.size < w'.heap.size ∧
    (∀ j, j < m → w'.cell? ⟨w.heap.size, j, none⟩ = some (.int .i64 (Z j))) ∧
    (((k = 1 ∨ k = 2) ∧ ∀ x : Int, (∃ j, j < m ∧ Z j = x) → x = 1 ∨ x = 2) ∨ (k ≠ 1 ∧ k ≠ 2 ∧ ∀ x : Int, (∃ j, j < m ∧ Z j = x) → x = k))

theorem kinds_any (k : Int) (w : World) : Calls Try.prog 16 #[.int .i64 k] w fun e w' => KindsPost k w e w' := by
  by_cases hk : k = 1 ∨ k = 2
  · refine (kinds_rw k hk w).mono ?_
    rintro e w' ⟨rfl, rfl⟩
    refine ⟨2, fun j => if j = 0 then 1 else 2, rfl, Nat.le_refl _, (Below.refl _ _).alloc (Nat.le_refl _) _, by simp, ?_, Or.inl ⟨hk, ?_⟩⟩
    · intro j hj
      match j, hj with
      | 0, _ => simp
      | 1, _ => simp
    · rintro x ⟨j, hj, rfl⟩
      match j, hj with
      | 0, _ => simp
      | 1, _ => simp
  · refine (kinds_one k (fun h => hk (Or.inl h)) (fun h => hk (Or.inr h)) w).mono ?_
    rintro e w' ⟨rfl, rfl⟩
    refine ⟨1, fun _ => k, rfl, by omega, (Below.refl _ _).alloc (Nat.le_refl _) _, by simp, ?_, Or.inr ⟨fun h => hk (Or.inl h), fun h => hk (Or.inr h), ?_⟩⟩
    · intro j hj
      match j, hj with
      | 0, _ => simp
    · rintro x ⟨j, hj, rfl⟩
      rfl

set_option maxHeartbeats 400000 in
theorem zzKinds_any (k : Int) (w : World) : Calls Try.prog 12 #[.int .i64 k] w fun e w' => KindsPost k w e w' := by
  go_enter Try.func12, Try.ntmps12
  go_wp2_with fail
  refine (kinds_any k _).mono ?_
  rintro e w' ⟨m, Z, rfl, h1, h2, h3, h4, h5⟩
  have HH : Hid (m ≤ 2 ∧ Below w.heap.size w w' ∧ w.heap.size < w'.heap.size ∧ (∀ j, j < m → w'.cell? ⟨w.heap.size, j, none⟩ = some (.int .i64 (Z j))) ∧
    (((k = 1 ∨ k = 2) ∧ ∀ x : Int, (∃ j, j < m ∧ Z j = x) → x = 1 ∨ x = 2) ∨ (k ≠ 1 ∧ k ≠ 2 ∧ ∀ x : Int, (∃ j, j < m ∧ Z j = x) → x = k))) := ⟨h1, h2, h3, h4, h5⟩
  clear h1 h2 h3 h4 h5
  go_wp2
  go_ret
  exact ⟨m, Z, rfl, HH.out⟩

/-- kindIn's answer. -/
def InPost (k : Int) (m : Nat) (Z : Nat → Int) (w : World) (e : Ending) (w' : World) : Prop :=
  (e = .returned (.bool false) ∨ (e = .returned (.bool true) ∧ ∃ j, j < m ∧ Z j = k)) ∧ w' = w

set_option maxHeartbeats 1000000 in
theorem kindIn_any (k : Int) (g m : Nat) (Z : Nat → Int) (w : World) (hm : m ≤ 2) (hc : ∀ j, j < m → w.cell? ⟨g, j, none⟩ = some (.int .i64 (Z j))) :
    Calls Try.prog 13 #[.int .i64 k, .slice (some ⟨g, 0, none⟩) m m] w fun e w' => InPost k m Z w e w' := by
  have HC : Hid (∀ j, j < m → w.cell? ⟨g, j, none⟩ = some (.int .i64 (Z j))) := hc
  clear hc
  go_enter Try.func13, Try.ntmps13
  go_wp2
  go_loop [5] (fun j => ∃ jj : Nat, j = .int .i64 (jj : Int) ∧ jj ≤ m) (fun j => m - (intOf j).toNat)
  case atStart => exact ⟨0, rfl, Nat.zero_le _⟩
  case round =>
    obtain ⟨jj, rfl, hj⟩ := hrel
    by_cases hlt : jj < m
    · have hlt' : (jj : Int) < (m : Int) := by omega
      have hcj := HC.out jj hlt
      by_cases hz : Z jj = k
      · have HZ : Hid (∃ j, j < m ∧ Z j = k) := ⟨jj, hlt, hz⟩
        have hz' : (Z jj == k) = true := by simpa using hz
        clear hz
        go_wp2
        go_ret
        exact ⟨Or.inr ⟨rfl, HZ.out⟩, rfl⟩
      · have hz' : (Z jj == k) = false := by simpa using hz
        clear hz
        go_wp2
        go_round
        case rel => exact ⟨jj + 1, by go_num, by omega⟩
        case measure => simp [intOf]; omega
    · have hlt' : ¬ (jj : Int) < (m : Int) := by omega
      go_wp2
      go_ret
      exact ⟨Or.inl rfl, rfl⟩
end Go.Proofs.Qxb6603764a
