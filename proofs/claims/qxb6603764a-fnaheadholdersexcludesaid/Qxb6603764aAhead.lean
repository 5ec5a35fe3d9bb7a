import Derived.Test.Qxb6603764aProject
namespace Go.Proofs.Qxb6603764a
open Go.RowKit

/-- The contender that is waited for, as a value. -/
def agg3 (N : Nat → ByteArray) (K S : Nat → Int) : Option Nat → Value
  | none => .agg #[.string ⟨#[]⟩, .int .i64 0, .int .i64 0]
  | some j => .agg #[.string (N j), .int .i64 (K j), .int .i64 (S j)]

/-- ahead's answer. -/
def AheadPost (N : Nat → ByteArray) (K S : Nat → Int) (i : Nat) (w : World) (e : Ending) (w' : World) : Prop :=
  e = .returned (.tuple #[agg3 N K S (Ahead.ahead K i), .bool (Ahead.ahead K i).isSome]) ∧ Below w.heap.size w w'

theorem row_zero {w : World} {g n : Nat} {N : Nat → ByteArray} {K S : Nat → Int} (h : Row3 w g 0 n N K S) (i : Nat) (hi : i < n) :
    w.cell? ⟨g, i * 3, none⟩ = some (.string (N i)) ∧ w.cell? ⟨g, i * 3 + 1, none⟩ = some (.int .i64 (K i)) ∧ w.cell? ⟨g, i * 3 + 2, none⟩ = some (.int .i64 (S i)) := by
  have a := h.name i hi
  have b := h.kind i hi
  have c := h.seq i hi
  rw [Nat.zero_add] at a b c
  exact ⟨a, b, c⟩

theorem post_none {N : Nat → ByteArray} {K S : Nat → Int} {i : Nat} {w w' : World} (h : Ahead.ahead K i = none) (hb : Below w.heap.size w w') :
    AheadPost N K S i w (.returned (.tuple #[.agg #[.string ⟨#[]⟩, .int .i64 0, .int .i64 0], .bool false])) w' :=
  ⟨by rw [h]; rfl, hb⟩
theorem post_some {N : Nat → ByteArray} {K S : Nat → Int} {i j : Nat} {w w' : World} (h : Ahead.ahead K i = some j) (hb : Below w.heap.size w w') :
    AheadPost N K S i w (.returned (.tuple #[.agg #[.string (N j), .int .i64 (K j), .int .i64 (S j)], .bool true])) w' :=
  ⟨by rw [h]; rfl, hb⟩

set_option maxHeartbeats 1000000 in
theorem ahead_other (g n i : Nat) (N : Nat → ByteArray) (K S : Nat → Int) (w : World) (h : Row3 w g 0 n N K S) (hg : g < w.heap.size) (hn : n ≤ 4096) (hi : i < n) (hk : K i ≠ 1) :
    Calls Try.prog 15 #[.slice (some ⟨g, 0, none⟩) n n, .int .i64 (i : Int)] w fun e w' => AheadPost N K S i w e w' := by
  have hk' : (K i == 1) = false := by simpa using hk
  have hi' : (i : Int) < (n : Int) := by omega
  have hn' : (n : Int) ≤ 4096 := by omega
  have hne : ¬ g = w.heap.size := by omega
  rcases Nat.eq_zero_or_pos i with h0 | h0
  · subst h0
    obtain ⟨c0, c1, c2⟩ := row_zero h 0 hi
    have HA : Hid (Ahead.ahead K 0 = none) := Ahead.hold_zero K
    clear hk
    go_enter Try.func15, Try.ntmps15
    go_wp2
    exact bodyPost_ret (v := .tuple #[.agg #[.string ⟨#[]⟩, .int .i64 0, .int .i64 0], .bool false]) (by simp [results, Try.results15, go_sem]) rfl (post_none HA.out ((Below.refl _ _).alloc (Nat.le_refl _) _))
  · obtain ⟨c0, c1, c2⟩ := row_zero h i hi
    obtain ⟨j, hj⟩ : ∃ j, i = j + 1 := ⟨i - 1, by omega⟩
    obtain ⟨d0, d1, d2⟩ := row_zero h j (by omega)
    have HA : Hid (Ahead.ahead K i = some j) := by
      show Ahead.ahead K i = some j
      unfold Ahead.ahead
      rw [if_neg hk, if_neg (by omega), hj]
      rfl
    have hi0 : ((i : Int) == 0) = false := by rw [beq_eq_false_iff_ne]; omega
    have hij : (i : Int) - 1 = (j : Int) := by omega
    have hjn : (j : Int) < (n : Int) := by omega
    clear hk hj
    go_enter Try.func15, Try.ntmps15
    go_wp2
    exact bodyPost_ret (v := .tuple #[.agg #[.string (N j), .int .i64 (K j), .int .i64 (S j)], .bool true]) (by simp [results, Try.results15, go_sem]) rfl (post_some HA.out ((Below.refl _ _).alloc (Nat.le_refl _) _))

set_option maxHeartbeats 1000000 in
theorem ahead_reader (g n i : Nat) (N : Nat → ByteArray) (K S : Nat → Int) (w : World) (h : Row3 w g 0 n N K S) (hg : g < w.heap.size) (hn : n ≤ 4096) (hi : i < n) (hk : K i = 1) :
    Calls Try.prog 15 #[.slice (some ⟨g, 0, none⟩) n n, .int .i64 (i : Int)] w fun e w' => AheadPost N K S i w e w' := by
  have hk' : (K i == 1) = true := by simpa using hk
  have hi' : (i : Int) < (n : Int) := by omega
  have hn' : (n : Int) ≤ 4096 := by omega
  have hne : ¬ g = w.heap.size := by omega
  obtain ⟨c0, c1, c2⟩ := row_zero h i hi
  have HA : Hid (Ahead.ahead K i = Ahead.scan K i) := by
    show Ahead.ahead K i = Ahead.scan K i
    unfold Ahead.ahead
    rw [if_pos hk]
  rw [hk] at c1
  clear hk hk'
  go_enter Try.func15, Try.ntmps15
  go_wp2
  go_loop [6] (fun j => ∃ (jj : Int) (m : Nat), jj + 1 = (m : Int) ∧ m ≤ i ∧ j = .int .i64 jj ∧ Ahead.scan K i = Ahead.scan K m) (fun j => (intOf j + 1).toNat)
  case atStart => exact ⟨_, i, by omega, Nat.le_refl _, rfl, rfl⟩
  case round =>
    obtain ⟨jj, m, hjm, hm, rfl, hsc⟩ := hrel
    have HS : Hid (Ahead.scan K i = Ahead.scan K m) := hsc
    clear hsc c0 c1 c2
    rcases Nat.eq_zero_or_pos m with h0 | h0
    · subst h0
      obtain rfl : jj = -1 := by omega
      have HN : Hid (Ahead.ahead K i = none) := HA.out.trans HS.out
      clear hjm
      go_wp2
      exact bodyPost_ret (v := .tuple #[.agg #[.string ⟨#[]⟩, .int .i64 0, .int .i64 0], .bool false]) (by simp [results, Try.results15, go_sem]) rfl (post_none HN.out ((Below.refl _ _).alloc (Nat.le_refl _) _))
    · obtain ⟨j, rfl⟩ : ∃ j, m = j + 1 := ⟨m - 1, by omega⟩
      obtain rfl : jj = (j : Int) := by omega
      obtain ⟨d0, d1, d2⟩ := row_zero h j (by omega)
      have hjn : (j : Int) < (n : Int) := by omega
      clear hjm
      by_cases h2 : K j = 2
      · have HN : Hid (Ahead.ahead K i = some j) := HA.out.trans (HS.out.trans (Ahead.scan_hit h2))
        have h2' : (K j == 2) = true := by simpa using h2
        clear h2
        go_wp2
        exact bodyPost_ret (v := .tuple #[.agg #[.string (N j), .int .i64 (K j), .int .i64 (S j)], .bool true]) (by simp [results, Try.results15, go_sem]) rfl (post_some HN.out ((Below.refl _ _).alloc (Nat.le_refl _) _))
      · have h2' : (K j == 2) = false := by simpa using h2
        have HS2 : Hid (Ahead.scan K i = Ahead.scan K j) := HS.out.trans (Ahead.scan_miss h2)
        clear h2
        go_wp2
        go_round
        case rel => exact ⟨(j : Int) - 1, j, by omega, by omega, by go_num, HS2.out⟩
        case measure => simp [intOf]

theorem ahead_any (g n i : Nat) (N : Nat → ByteArray) (K S : Nat → Int) (w : World) (h : Row3 w g 0 n N K S) (hg : g < w.heap.size) (hn : n ≤ 4096) (hi : i < n) :
    Calls Try.prog 15 #[.slice (some ⟨g, 0, none⟩) n n, .int .i64 (i : Int)] w fun e w' => AheadPost N K S i w e w' := by
  by_cases hk : K i = 1
  · exact ahead_reader g n i N K S w h hg hn hi hk
  · exact ahead_other g n i N K S w h hg hn hi hk
end Go.Proofs.Qxb6603764a
