import Derived.Test.Qxb6603764aRows
import Derived.Test.Qxb6603764aPlain
import Derived.WalkKit
import Derived.WalkSpells
import Derived.WalkLawsBesides
import Derived.Outline
namespace Go.Proofs.Qxb6603764a
open Go.RowKit

/-- n contenders lie from ⟨b, off⟩ on, three cells each. -/
structure Row3 (w : World) (b off n : Nat) (N : Nat → ByteArray) (K S : Nat → Int) : Prop where
  name : ∀ i, i < n → w.cell? ⟨b, off + i * 3, none⟩ = some (.string (N i))
  kind : ∀ i, i < n → w.cell? ⟨b, off + i * 3 + 1, none⟩ = some (.int .i64 (K i))
  seq : ∀ i, i < n → w.cell? ⟨b, off + i * 3 + 2, none⟩ = some (.int .i64 (S i))

/-- A guard's answer: no, or yes and then a bound holds; nothing turns. -/
def Guard (p : Prop) (w : World) (e : Ending) (w' : World) : Prop := (e = .returned (.bool false) ∨ (e = .returned (.bool true) ∧ p)) ∧ w' = w

set_option maxHeartbeats 400000 in
theorem bytesA_long (ao : Option Addr) (n cap : Nat) (i : Int) (w : World) (h : 1048576 < n) (hm : n ≤ maxLen) :
    Calls Try.prog 6 #[.slice ao n cap, .int .i64 i] w fun e w' => Guard (True) w e w' := by
  unfold maxLen at hm
  have h' : (1048576 : Int) < (n : Int) := by omega
  go_enter Try.func6, Try.ntmps6
  go_wp2
  go_ret
  exact ⟨Or.inl rfl, rfl⟩

set_option maxHeartbeats 400000 in
theorem bytesA_zero (ao : Option Addr) (cap : Nat) (i : Int) (w : World) :
    Calls Try.prog 6 #[.slice ao 0 cap, .int .i64 i] w fun e w' => Guard True w e w' := by
  go_enter Try.func6, Try.ntmps6
  go_wp2
  refine wp_loop_rounds 1 ?_
  rw [rounds_succ]
  go_wp2
  go_ret
  exact ⟨Or.inr ⟨rfl, trivial⟩, rfl⟩

set_option maxHeartbeats 1000000 in
theorem bytesA_row (b off n cap : Nat) (N : Nat → ByteArray) (K S : Nat → Int) (i : Int) (w : World) (h : Row3 w b off n N K S) (hn : n ≤ 1048576) (hN : ∀ i, i < n → (N i).size ≤ maxLen) :
    Calls Try.prog 6 #[.slice (some ⟨b, off, none⟩) n cap, .int .i64 i] w fun e w' => Guard (True) w e w' := by
  have hn' : (n : Int) ≤ 1048576 := by omega
  have hn2 : ¬ (1048576 : Int) < (n : Int) := by omega
  go_enter Try.func6, Try.ntmps6
  go_wp2
  go_loop [5, 6] (fun t j => ∃ (tt : Int) (k : Nat), t = .int .i64 tt ∧ j = .int .i64 (k : Int) ∧ k ≤ n ∧ 0 ≤ tt ∧ tt ≤ 1048576) (fun _ j => n - (intOf j).toNat)
  case atStart => exact ⟨_, 0, rfl, rfl, by omega, by omega, by omega⟩
  case round =>
    obtain ⟨tt, k, rfl, rfl, hk, ht0, ht1⟩ := hrel
    by_cases hlt : k < n
    · have hlt' : (k : Int) < (n : Int) := by omega
      have hcn := h.name k hlt
      have hsz := hN k hlt
      unfold maxLen at hsz
      generalize N k = nm at *
      by_cases h1 : (1048576 : Int) < (nm.size : Int)
      · go_wp2
        go_ret
        exact ⟨Or.inl rfl, rfl⟩
      · by_cases h2 : (1048576 : Int) < tt + (nm.size : Int)
        · go_wp2
          go_ret
          exact ⟨Or.inl rfl, rfl⟩
        · go_wp2
          go_round
          case rel => exact ⟨tt + (nm.size : Int), k + 1, rfl, by go_num, by omega, by omega, by omega⟩
          case measure => simp [intOf]; omega
    · have hlt' : ¬ (k : Int) < (n : Int) := by omega
      go_wp2
      go_ret
      exact ⟨Or.inr ⟨rfl, trivial⟩, rfl⟩

set_option maxHeartbeats 400000 in
theorem bytesB_long (ao : Option Addr) (n cap : Nat) (w : World) (h : 1048576 < n) (hm : n ≤ maxLen) :
    Calls Try.prog 11 #[.slice ao n cap] w fun e w' => Guard (True) w e w' := by
  unfold maxLen at hm
  have h' : (1048576 : Int) < (n : Int) := by omega
  go_enter Try.func11, Try.ntmps11
  go_wp2
  go_ret
  exact ⟨Or.inl rfl, rfl⟩

set_option maxHeartbeats 400000 in
theorem bytesB_zero (ao : Option Addr) (cap : Nat) (w : World) :
    Calls Try.prog 11 #[.slice ao 0 cap] w fun e w' => Guard True w e w' := by
  go_enter Try.func11, Try.ntmps11
  go_wp2
  refine wp_loop_rounds 1 ?_
  rw [rounds_succ]
  go_wp2
  go_ret
  exact ⟨Or.inr ⟨rfl, trivial⟩, rfl⟩

set_option maxHeartbeats 1000000 in
theorem bytesB_row (b off n cap : Nat) (N : Nat → ByteArray) (K S : Nat → Int) (w : World) (h : Row3 w b off n N K S) (hn : n ≤ 1048576) (hN : ∀ i, i < n → (N i).size ≤ maxLen) :
    Calls Try.prog 11 #[.slice (some ⟨b, off, none⟩) n cap] w fun e w' => Guard (True) w e w' := by
  have hn' : (n : Int) ≤ 1048576 := by omega
  have hn2 : ¬ (1048576 : Int) < (n : Int) := by omega
  go_enter Try.func11, Try.ntmps11
  go_wp2
  go_loop [3, 4] (fun t j => ∃ (tt : Int) (k : Nat), t = .int .i64 tt ∧ j = .int .i64 (k : Int) ∧ k ≤ n ∧ 0 ≤ tt ∧ tt ≤ 1048576) (fun _ j => n - (intOf j).toNat)
  case atStart => exact ⟨_, 0, rfl, rfl, by omega, by omega, by omega⟩
  case round =>
    obtain ⟨tt, k, rfl, rfl, hk, ht0, ht1⟩ := hrel
    by_cases hlt : k < n
    · have hlt' : (k : Int) < (n : Int) := by omega
      have hcn := h.name k hlt
      have hsz := hN k hlt
      unfold maxLen at hsz
      generalize N k = nm at *
      by_cases h1 : (1048576 : Int) < (nm.size : Int)
      · go_wp2
        go_ret
        exact ⟨Or.inl rfl, rfl⟩
      · by_cases h2 : (1048576 : Int) < tt + (nm.size : Int)
        · go_wp2
          go_ret
          exact ⟨Or.inl rfl, rfl⟩
        · go_wp2
          go_round
          case rel => exact ⟨tt + (nm.size : Int), k + 1, rfl, by go_num, by omega, by omega, by omega⟩
          case measure => simp [intOf]; omega
    · have hlt' : ¬ (k : Int) < (n : Int) := by omega
      go_wp2
      go_ret
      exact ⟨Or.inr ⟨rfl, trivial⟩, rfl⟩

set_option maxHeartbeats 400000 in
theorem queueOK_long (ao : Option Addr) (n cap : Nat) (w : World) (h : 4096 < n) (hm : n ≤ maxLen) :
    Calls Try.prog 7 #[.slice ao n cap] w fun e w' => Guard (n ≤ 4096) w e w' := by
  unfold maxLen at hm
  have h' : (4096 : Int) < (n : Int) := by omega
  go_enter Try.func7, Try.ntmps7
  go_wp2
  go_ret
  exact ⟨Or.inl rfl, rfl⟩

set_option maxHeartbeats 400000 in
theorem queueOK_zero (ao : Option Addr) (cap : Nat) (w : World) :
    Calls Try.prog 7 #[.slice ao 0 cap] w fun e w' => Guard (0 ≤ 4096) w e w' := by
  go_enter Try.func7, Try.ntmps7
  go_wp2
  refine wp_loop_rounds 1 ?_
  rw [rounds_succ]
  go_wp2
  go_ret
  exact ⟨Or.inr ⟨rfl, by omega⟩, rfl⟩

set_option maxHeartbeats 1000000 in
theorem queueOK_row (b off n cap : Nat) (N : Nat → ByteArray) (K S : Nat → Int) (w : World) (h : Row3 w b off n N K S) (hn : n ≤ 4096) (hN : ∀ i, i < n → (N i).size ≤ maxLen) :
    Calls Try.prog 7 #[.slice (some ⟨b, off, none⟩) n cap] w fun e w' => Guard (n ≤ 4096) w e w' := by
  have hn' : (n : Int) ≤ 4096 := by omega
  have hn2 : ¬ (4096 : Int) < (n : Int) := by omega
  go_enter Try.func7, Try.ntmps7
  go_wp2
  go_loop [3, 4] (fun t j => ∃ (tt : Int) (k : Nat), t = .int .i64 tt ∧ j = .int .i64 (k : Int) ∧ k ≤ n ∧ 0 ≤ tt ∧ tt ≤ 1048576) (fun _ j => n - (intOf j).toNat)
  case atStart => exact ⟨_, 0, rfl, rfl, by omega, by omega, by omega⟩
  case round =>
    obtain ⟨tt, k, rfl, rfl, hk, ht0, ht1⟩ := hrel
    by_cases hlt : k < n
    · have hlt' : (k : Int) < (n : Int) := by omega
      have hcn := h.name k hlt
      have hsz := hN k hlt
      unfold maxLen at hsz
      generalize N k = nm at *
      by_cases h1 : (1048576 : Int) < (nm.size : Int)
      · go_wp2
        go_ret
        exact ⟨Or.inl rfl, rfl⟩
      · by_cases h2 : (1048576 : Int) < tt + (nm.size : Int)
        · go_wp2
          go_ret
          exact ⟨Or.inl rfl, rfl⟩
        · go_wp2
          go_round
          case rel => exact ⟨tt + (nm.size : Int), k + 1, rfl, by go_num, by omega, by omega, by omega⟩
          case measure => simp [intOf]; omega
    · have hlt' : ¬ (k : Int) < (n : Int) := by omega
      go_wp2
      go_ret
      exact ⟨Or.inr ⟨rfl, by omega⟩, rfl⟩

end Go.Proofs.Qxb6603764a
