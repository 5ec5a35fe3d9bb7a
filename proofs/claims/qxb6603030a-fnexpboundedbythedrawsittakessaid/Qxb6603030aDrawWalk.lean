import Derived.Test.Qxb6603030aRows
import Derived.Test.Qxb6603030aDrawPlain
import Derived.WalkKit
import Derived.WalkSpells
import Derived.WalkLawsBesides
import Derived.Outline
namespace Go.Proofs.Qxb6603030a
open Go.RowKit

/-- The generator's step, and what it draws of a state. -/
def nx (s : Int) : Int := IntKind.u64.wrap (s + 11400714819323198485)
def mix1 (z : Int) : Int := IntKind.u64.wrap (bits .xor .u64 z (z / 1073741824) * 13787848793156543929)
def mix2 (z : Int) : Int := IntKind.u64.wrap (bits .xor .u64 z (z / 134217728) * 10723151780598845931)
def mix3 (z : Int) : Int := bits .xor .u64 z (z / 2147483648)
def mix (z : Int) : Int := mix3 (mix2 (mix1 z))

theorem wrap_bd (x : Int) : 0 ≤ IntKind.u64.wrap x ∧ IntKind.u64.wrap x ≤ 18446744073709551615 := by
  rw [IntKind.wrap_u64]; omega
theorem nx_bd (s : Int) : 0 ≤ nx s ∧ nx s ≤ 18446744073709551615 := wrap_bd _
theorem mix_bd (z : Int) : 0 ≤ mix z ∧ mix z ≤ 18446744073709551615 := wrap_bd _

/-- The state behind i steps; the draw of number i, cut to 53 bits. -/
def stt (a : Int) : Nat → Int
  | 0 => a
  | i + 1 => nx (stt a i)
def ud (a : Int) (i : Nat) : Nat := (mix (stt a (i + 1)) / 2048).toNat
theorem stt_bd {a : Int} (h0 : 0 ≤ a) (h1 : a ≤ 18446744073709551615) : ∀ i, 0 ≤ stt a i ∧ stt a i ≤ 18446744073709551615
  | 0 => ⟨h0, h1⟩
  | _ + 1 => nx_bd _
theorem ud_eq (a : Int) (i : Nat) : mix (nx (stt a i)) / 2048 = (ud a i : Int) := by
  have := mix_bd (nx (stt a i))
  show _ = (((mix (nx (stt a i)) / 2048).toNat : Nat) : Int)
  omega
theorem ud_lt (a : Int) (i : Nat) : ud a i < 2 ^ 53 := by
  have := mix_bd (nx (stt a i))
  show (mix (nx (stt a i)) / 2048).toNat < 2 ^ 53
  omega

set_option maxHeartbeats 400000 in
theorem next_any (s : Int) (b o : Nat) (w : World) (_hs0 : 0 ≤ s) (_hs1 : s ≤ 18446744073709551615) (hc : w.cell? ⟨b, o, none⟩ = some (.int .u64 s)) (hf : w.frozen? ⟨b, o, none⟩ = false) :
    Calls Try.prog 15 #[.pointer (some ⟨b, o, none⟩)] w fun e w' => e = .returned (.int .u64 (mix (nx s))) ∧ w' = w.setCell ⟨b, o, none⟩ (.int .u64 (nx s)) := by
  go_enter Try.func15, Try.ntmps15
  go_wp2
  go_ret
  exact ⟨rfl, rfl⟩

theorem grown_trans {A B C : World} (h1 : Grown A B) (h2 : Grown B C) : Grown A C :=
  ⟨World.keptBut_trans h1.1 h2.1, fun a => (h2.2.1 a).trans (h1.2.1 a), Nat.le_trans h1.2.2 h2.2.2⟩

set_option maxHeartbeats 400000 in
theorem zzNext_any (s : Int) (w : World) (hs0 : 0 ≤ s) (hs1 : s ≤ 18446744073709551615) :
    Calls Try.prog 12 #[.int .u64 s] w fun e w' => e = .returned (.tuple #[.int .u64 (mix (nx s)), .int .u64 (nx s)]) ∧ Grown w w' := by
  go_enter Try.func12, Try.ntmps12
  go_wp2_with fail
  refine (next_any s w.heap.size 0 _ hs0 hs1 (by simp) (by simp)).mono ?_
  rintro e w' ⟨rfl, rfl⟩
  go_wp2
  go_region
  go_wp2
  go_ret2
  exact ⟨rfl, by repeat (first | exact Grown.refl _ | apply Grown.drew | apply Grown.alloc)⟩

/-- Newton's iteration, in the walk's own form. -/
def newton : Nat → Int
  | 0 => 11400714819323198485
  | k + 1 => IntKind.u64.wrap (newton k * IntKind.u64.wrap (2 - IntKind.u64.wrap (11400714819323198485 * newton k)))
theorem newton_five : newton 5 = 17428512612931826493 := by decide +kernel

set_option maxHeartbeats 400000 in
theorem inv_any (w : World) :
    Calls Try.prog 10 #[] w fun e w' => e = .returned (.int .u64 (newton 5)) ∧ w' = w := by
  go_enter Try.func10, Try.ntmps10
  go_wp2
  go_loop [1, 2] (fun x i => ∃ (k : Nat), x = .int .u64 (newton k) ∧ i = .int .i64 (k : Int) ∧ k ≤ 5) (fun _ i => 5 - (intOf i).toNat)
  case atStart => exact ⟨0, rfl, rfl, by omega⟩
  case round =>
    obtain ⟨k, rfl, rfl, hk⟩ := hrel
    by_cases h5 : k < 5
    · have h5' : (k : Int) < 5 := by omega
      go_wp2
      go_round
      case rel => exact ⟨k + 1, rfl, by go_num, by omega⟩
      case measure => simp [intOf]; omega
    · obtain rfl : k = 5 := by omega
      go_wp2
      go_ret
      exact ⟨rfl, rfl⟩

theorem none_succ {u : Nat → Nat} {k : Nat} (h : ∀ j, j < k → Draw.stop u j = false) (hk : Draw.stop u k = false) : ∀ j, j < k + 1 → Draw.stop u j = false := by
  intro j hj
  by_cases e : j = k
  · subst e; exact hk
  · exact h j (by omega)

set_option maxHeartbeats 1000000 in
theorem ends_any (a : Int) (w : World) (h0 : 0 ≤ a) (h1 : a ≤ 18446744073709551615) :
    Calls Try.prog 8 #[.int .u64 a] w fun e w' => ∃ b : Bool, e = .returned (.bool b) ∧ (b = true → ∃ N, N < 4096 ∧ Draw.First (ud a) N) ∧ Grown w w' := by
  go_enter Try.func8, Try.ntmps8
  go_wp2
  go_loopw [3, 4, 5, 6] (fun s p r i wr => ∃ (k : Nat) (wh fi pr ru : Nat), Draw.M (ud a) k = ⟨wh, fi, pr, ru⟩ ∧ k ≤ 4096 ∧ ru ≤ k ∧ s = .int .u64 (stt a k) ∧ p = .int .u64 (pr : Int) ∧ r = .int .i64 (ru : Int) ∧ i = .int .i64 (k : Int) ∧ (∀ j, j < k → Draw.stop (ud a) j = false) ∧ Grown w wr) (fun _ _ _ i _ => 4096 - (intOf i).toNat)
  case atStart => exact ⟨0, 0, 0, 0, 0, rfl, by omega, by omega, rfl, rfl, rfl, rfl, fun j hj => absurd hj (by omega), Grown.refl _⟩
  case round =>
    obtain ⟨k, wh, fi, pr, ru, hM, hk, hru, rfl, rfl, rfl, rfl, hno, hg⟩ := hrel
    have HM : Hid (Draw.M (ud a) k = ⟨wh, fi, pr, ru⟩) := hM
    have HN : Hid (∀ j, j < k → Draw.stop (ud a) j = false) := hno
    have HG : Hid (Grown w wr) := hg
    clear hM hno hg
    by_cases hlt : k < 4096
    · have hlt' : (k : Int) < 4096 := by omega
      have hsb := stt_bd h0 h1 k
      go_wp2_with fail
      refine (zzNext_any (stt a k) _ hsb.1 hsb.2).mono ?_
      rintro e w1 ⟨rfl, hg1⟩
      have HG1 : Hid (Grown w w1) := grown_trans HG.out hg1
      clear hg1 HG
      have hx := ud_eq a k
      have hstep : nx (stt a k) = stt a (k + 1) := rfl
      rw [hstep] at hx ⊢
      have hxb := mix_bd (stt a (k + 1))
      have hx0 := hxb.1
      generalize mix (stt a (k + 1)) = x at *
      clear hstep hsb hxb
      by_cases hr0 : ru = 0
      · subst hr0
        obtain ⟨hM1, hs1⟩ := Draw.M_new HM.out
        have HM1 : Hid (Draw.M (ud a) (k + 1) = ⟨wh, ud a k, ud a k, 1⟩) := hM1
        have HN1 : Hid (∀ j, j < k + 1 → Draw.stop (ud a) j = false) := none_succ HN.out hs1
        clear hM1 hs1
        generalize ud a k = u at *
        go_wp2
        go_roundw
        case rel => exact ⟨k + 1, wh, u, u, 1, HM1.out, by omega, by omega, rfl, rfl, rfl, by go_num, HN1.out, HG1.out⟩
        case measure => simp [intOf]; omega
      · have hr0' : ((ru : Int) == 0) = false := by rw [beq_eq_false_iff_ne]; omega
        by_cases hl : ud a k < pr
        · obtain ⟨hM1, hs1⟩ := Draw.M_on HM.out hr0 hl
          have HM1 : Hid (Draw.M (ud a) (k + 1) = ⟨wh, fi, ud a k, ru + 1⟩) := hM1
          have HN1 : Hid (∀ j, j < k + 1 → Draw.stop (ud a) j = false) := none_succ HN.out hs1
          have hl' : ((ud a k : Nat) : Int) < (pr : Int) := by omega
          clear hM1 hs1
          generalize ud a k = u at *
          go_wp2
          go_roundw
          case rel => exact ⟨k + 1, wh, fi, u, ru + 1, HM1.out, by omega, by omega, rfl, rfl, by go_num, by go_num, HN1.out, HG1.out⟩
          case measure => simp [intOf]; omega
        · have hl' : ¬ ((ud a k : Nat) : Int) < (pr : Int) := by omega
          by_cases h2 : ru % 2 = 1
          · have HF : Hid (∃ N, N < 4096 ∧ Draw.First (ud a) N) := ⟨k, hlt, Draw.M_odd HM.out hr0 hl h2, HN.out⟩
            have h2' : ((ru : Int) % 2 == 1) = true := by rw [beq_iff_eq]; omega
            generalize ud a k = u at *
            go_wp2
            go_ret
            exact ⟨true, rfl, fun _ => HF.out, HG1.out⟩
          · obtain ⟨hM1, hs1⟩ := Draw.M_even HM.out hr0 hl h2
            have HM1 : Hid (Draw.M (ud a) (k + 1) = ⟨wh + 1, fi, pr, 0⟩) := hM1
            have HN1 : Hid (∀ j, j < k + 1 → Draw.stop (ud a) j = false) := none_succ HN.out hs1
            have h2' : ((ru : Int) % 2 == 1) = false := by rw [beq_eq_false_iff_ne]; omega
            clear hM1 hs1
            generalize ud a k = u at *
            go_wp2
            go_roundw
            case rel => exact ⟨k + 1, wh + 1, fi, pr, 0, HM1.out, by omega, by omega, rfl, rfl, rfl, by go_num, HN1.out, HG1.out⟩
            case measure => simp [intOf]; omega
    · have hlt' : ¬ (k : Int) < 4096 := by omega
      go_wp2
      go_ret
      exact Or.inl ⟨rfl, HG.out⟩
end Go.Proofs.Qxb6603030a
