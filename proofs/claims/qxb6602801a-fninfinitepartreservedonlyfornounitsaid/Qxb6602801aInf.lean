import Derived.Test.Qxb6602801aRows
import Derived.WalkKit
import Derived.WalkSpells
import Derived.WalkLawsBesides
namespace Go.Proofs.Qxb6602801a
open Go.RowKit

/-- What infinitePart answers for a unit that is not 'noUnit', or under a reserved word. -/
def ipRest (u : Int) (t : Bool) : Int :=
  if u == 6 then 1 else if u == 8 then 1 else if u == 9 then 1 else if u == 7 then 1 else
  if u == 18 then 1 else if u == 19 then 1 else if u == 20 then 1 else
  if u == 1 || u == 2 || u == 3 || u == 4 || u == 5 || u == 14 || u == 15 || u == 16 then (if t then 1 else 3) else
  if u == 10 || u == 11 || u == 12 || u == 13 || u == 17 || u == 21 || u == 22 then 2 else 3

theorem ipRest_ne (u : Int) (t : Bool) : ipRest u t ≠ 4 := by
  unfold ipRest
  repeat' split
  all_goals decide

theorem ret_u8 {a b : Int} (h : a = b) : Ending.returned (.int .u8 a) = .returned (.int .u8 b) := by rw [h]

set_option maxHeartbeats 400000 in
theorem inf_none (t : Bool) (w : World) :
    Calls Try.prog 15 #[.int .u8 0, .bool false, .bool t] w fun e w' => e = .returned (.int .u8 4) ∧ w' = w := by
  go_enter Try.func15, Try.ntmps15
  go_wp2
  go_ret
  exact ⟨rfl, rfl⟩

set_option maxHeartbeats 2000000 in
theorem inf_rest (u : Int) (r t : Bool) (hg : (u == 0) = false ∨ r = true) (w : World) :
    Calls Try.prog 15 #[.int .u8 u, .bool r, .bool t] w fun e w' => e = .returned (.int .u8 (ipRest u t)) ∧ w' = w := by
  by_cases h0 : (u == 0) = true
  · rcases hg with hg | rfl
    · rw [h0] at hg; exact absurd hg (by decide)
    · rw [beq_iff_eq] at h0
      subst h0
      go_enter Try.func15, Try.ntmps15
      go_wp2
      go_ret
      exact ⟨ret_u8 (by simp [ipRest]), rfl⟩
  · have h0' : (u == 0) = false := by simpa using h0
    clear h0 hg
    cases t
    all_goals
      go_enter Try.func15, Try.ntmps15
      go_wp2
      all_goals
        go_ret
        exact ⟨ret_u8 (by simp [ipRest, *]), rfl⟩

end Go.Proofs.Qxb6602801a
