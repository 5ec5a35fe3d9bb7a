/-
  A proof of 'Rows.FnSpreadStrideStepsVisitEachSlotOnceSaid': the frame is the kit's shell for this function; the walk and all that it imports from this seat are ours.
-/
import Derived.Test.Qxb6603030aRows
import Derived.Test.Qxb6603030aStrideWalk
import Derived.Deep.OwnRows
import Derived.Laws.IdiomStrings
import Derived.WalkKit
import Derived.ProofKit
import Derived.OpenShut
import Derived.ShutString
namespace Go.Proofs.Qxb6603030a.fnSpreadStrideStepsVisitEachSlotOnce
open Go.ChangeShapes Go.WideShapes Go.ChangeAt Go.RowKit
open Go.ChangeMaps (open_string shut_string)
set_option linter.unusedVariables false      -- a walk need not use every 'w<i>' (that an integer argument fits its kind)

theorem own : ownKnob Try.prog.godebug = none := by kernel_rfl

/-! ### STEP 1: THE WALK: the Go text returns true. 'Grown w w'': the world has at most new blocks (Derived/RowKit3.lean). Part the cases AHEAD of 'go_enter' where a test parts the walk; take each callee by a contract of your own. -/
theorem Try.info4 : (Try.prog.info? 4).map (fun i => (i.zero, i.size, i.bytes)) = some (some (.bool false), 1, 1) := by kernel_rfl

/-- Has slot i been visited by the first k steps? -/
def seenB (s n k i : Nat) : Bool := (List.range k).any fun j => j * s % n == i
theorem seenB_zero (s n i : Nat) : seenB s n 0 i = false := rfl
theorem seenB_succ (s n k i : Nat) : seenB s n (k + 1) i = (seenB s n k i || (k * s % n == i)) := by
  unfold seenB; rw [List.range_succ, List.any_append]; simp
theorem seenB_fresh {s n k : Nat} (hc : Nat.gcd s n = 1) (hk : k < n) : seenB s n k (k * s % n) = false := by
  unfold seenB
  rw [List.any_eq_false]
  intro j hj
  have := Stride.step_fresh hc (List.mem_range.1 hj) hk
  simpa using this

theorem cells_step {s n k : Nat} {xs : List Value} (hl : xs.length = n) (hn : 0 < n) (h : ∀ i, i < n → xs[i]? = some (.bool (seenB s n k i))) :
    ∀ i, i < n → (xs.set (k * s % n) (.bool true))[i]? = some (.bool (seenB s n (k + 1) i)) := by
  intro i hi
  have hp : k * s % n < n := Nat.mod_lt _ hn
  rw [seenB_succ]
  by_cases e : k * s % n = i
  · subst e
    rw [List.getElem?_set_self (by omega)]
    simp
  · rw [List.getElem?_set_ne e, h i hi]
    have : (k * s % n == i) = false := by simpa using e
    rw [this, Bool.or_false]

theorem made_bools (n : Nat) : ∃ xs : List Value, madeCells #[Value.bool false] n = xs.toArray ∧ xs.length = n ∧ ∀ i, i < n → xs[i]? = some (.bool false) := by
  refine ⟨(madeCells #[Value.bool false] n).toList, by simp, by rw [Array.length_toList, size_madeCells], fun i hi => ?_⟩
  rw [Array.getElem?_toList]
  simp [madeCells, hi, Nat.mod_one]

set_option maxHeartbeats 1000000 in
theorem walk_in (a : Nat) (h1 : 1 ≤ a) (ha : a ≤ 65536) (w : World) :
    Calls Try.prog 4 #[.int .i64 (a : Int)] w fun e w' => e = .returned (.bool true) ∧ Grown w w' := by
  have hi1 : ¬ (a : Int) < 1 := by omega
  have hi2 : ¬ (65536 : Int) < (a : Int) := by omega
  obtain ⟨xs0, hxs0, hlen0, hcell0⟩ := made_bools a
  have hmk := fun w => run_make_row' (P := Try.prog) 25 4 (.bool false) 1 Try.underlying25 Try.info4 rfl .i64 .i64 a (by omega) (by omega) w
  rw [hxs0] at hmk
  have HC0 : Hid (∀ i, i < a → xs0[i]? = some (.bool false)) := hcell0
  have HL0 : Hid (xs0.length = a) := hlen0
  clear hxs0 hcell0 hlen0
  go_enter Try.func4, Try.ntmps4
  go_wp2_with fail
  refine (zzStride_any a _ (by omega) h1).mono ?_
  rintro e w1 ⟨s, rfl, hl, n, rfl⟩
  have HL : Hid (Stride.Least s a) := hl
  have hs1 : (37 : Int) ≤ (s : Int) := by have := hl.lo; omega
  have hs2 : (s : Int) ≤ 67 := by have := hl.hi; omega
  have HG : Hid (Grown w (w.drewN n)) := Grown.refl w
  clear hl hi1 hi2
  generalize w.drewN n = w2 at *
  go_wp2
  go_loopw [5, 6] (fun p k wr => ∃ (kk : Nat) (xs : List Value), k = .int .i64 (kk : Int) ∧ p = .int .i64 ((kk * s % a : Nat) : Int) ∧ kk ≤ a ∧ xs.length = a ∧ (∀ i, i < a → xs[i]? = some (.bool (seenB s a kk i))) ∧ wr = w2.alloc (.cells xs.toArray 4)) (fun _ k _ => a - (intOf k).toNat)
  case atStart => exact ⟨0, xs0, rfl, by simp, Nat.zero_le _, HL0.out, HC0.out, rfl⟩
  case round =>
    obtain ⟨kk, xs, rfl, rfl, hk, hlen, hcell, rfl⟩ := hrel
    have hp : kk * s % a < a := Nat.mod_lt _ (by omega)
    by_cases hlt : kk < a
    · have hlt' : (kk : Int) < (a : Int) := by omega
      have hfr := seenB_fresh HL.out.cop hlt
      have HS : Hid (∀ i, i < a → (xs.set (kk * s % a) (.bool true))[i]? = some (.bool (seenB s a (kk + 1) i))) := cells_step hlen (by omega) hcell
      have HLS : Hid ((xs.set (kk * s % a) (.bool true)).length = a) := by
        show (xs.set (kk * s % a) (.bool true)).length = a
        rw [List.length_set]; exact hlen
      have HN : Hid ((kk * s % a + s) % a = (kk + 1) * s % a) := Stride.step_succ s a kk
      have hcx : (w2.alloc (.cells xs.toArray 4)).cell? ⟨w2.heap.size, kk * s % a, none⟩ = some (.bool false) := by
        have := World.cell?_alloc_mark w2 xs.toArray 4 (0, 0) (kk * s % a)
        rw [List.getElem?_toArray, hcell _ hp, hfr] at this
        exact this
      have hp' : ((kk * s % a : Nat) : Int) < (a : Int) := by omega
      clear hcell hfr
      generalize kk * s % a = pp at *
      go_wp2
      go_roundw
      case rel =>
        refine ⟨kk + 1, xs.set pp (.bool true), by go_num, ?_, by omega, HLS.out, HS.out, rfl⟩
        rw [← HN.out]
        go_num
      case measure => simp [intOf]; omega
    · obtain rfl : kk = a := by omega
      have hz : kk * s % kk = 0 := Stride.step_home s kk
      rw [hz]
      clear hcell hz hp
      go_wp2
      go_ret
      exact ⟨rfl, Grown.alloc HG.out _ _⟩

set_option maxHeartbeats 400000 in
theorem walk (a0 : Int) (w0 : (Lit.int .i64 a0).wf = true) (w : World) :
    Calls Try.prog 4 #[.int .i64 a0] w fun e w' => e = .returned (.bool true) ∧ Grown w w' := by
  clear w0
  by_cases h1 : a0 < 1
  · go_enter Try.func4, Try.ntmps4
    go_wp2
    go_ret
    exact ⟨rfl, Grown.refl _⟩
  by_cases h2 : 65536 < a0
  · go_enter Try.func4, Try.ntmps4
    go_wp2
    go_ret
    exact ⟨rfl, Grown.refl _⟩
  obtain ⟨a, rfl⟩ := Int.eq_ofNat_of_zero_le (show 0 ≤ a0 by omega)
  exact walk_in a (by omega) (by omega) w

/-! ### THE ROW's STEP: WRITTEN OUT: LEAVE IT -/
set_option maxRecDepth 100000 in
theorem lifted (os : Os) (started : os.Started) (H : Type) (enc : TypeId × Value → H) :
    ReturnsInHanded {} Try.checked os 4 .any (Rows.fnSpreadStrideStepsVisitEachSlotOnceSpec.pre6 enc Try.prog Try.f4 Rows.fnSpreadStrideStepsVisitEachSlotOnceRow.domain false) (Rows.fnSpreadStrideStepsVisitEachSlotOnceSpec.post enc Try.prog Try.f4 false true false false) := by
  refine returnsInHanded_of_change (C := Try.checked) own started (by kernel_rfl) Try.func4
    (ChangeSpec.witness6 (enc := enc) (C := Try.checked) false ⟨#[], #[.int .i64 0], []⟩ 8 (by kernel_rfl) (by kernel_rfl) (by kernel_rfl) (by kernel_rfl)) ?_
  intro W base args ds gs before hval0 hW hcnd _
  have hval : ∀ (j : Nat) t v, Try.f4.params[j]? = some t → args[j]? = some v → Value.okWide Try.prog W .any base t v := hval0
  have hW' := hW
  obtain ⟨p, q, hA0, hV, rfl, hfz, hnd⟩ := hW
  have hA : DataW.TrodAll enc Try.prog W 0 (fun _ => true) true Try.f4.params.toList args.toList ds p := hA0
  rw [Try.params4] at hA hval
  obtain ⟨v0, vs0, d0, ds0, p0, q0, hargs, rfl, rfl, h0, r0⟩ := trodAll_cons hA
  obtain ⟨rfl, rfl, rfl⟩ := trodAll_nil r0
  obtain rfl : args = #[v0] := by cases args; simp_all
  obtain ⟨rfl, rfl⟩ := trodVars_none hV
  obtain ⟨a0, rfl, rfl, rfl, w0⟩ := open_int Try.underlying2 (hval 0 2 v0 rfl rfl) h0
  clear hA0 hval0
  simp only [List.append_nil] at hW'
  refine (walk a0 w0 W).mono fun e W' ⟨he, hg⟩ => ?_
  subst he
  exact ⟨_, rfl, post_of_same (pa := []) (pv := []) hW' (fun _ _ _ => (trodAll_cons_mk (shut_bool Try.underlying4 _) trodAll_mk0)) (fun sp _ => (trodAll_cons_mk (shut_int Try.underlying2 w0) trodAll_mk0)) (fun _ _ => rfl) rfl
    (hg.frame _) hg.2.1 (ok_one (by kernel_rfl) rfl (okWide_bool_mk Try.underlying4 _))⟩

theorem over : Rows.fnSpreadStrideStepsVisitEachSlotOnceRow.holds Try.pinned (OpenSpec.ofChange Rows.fnSpreadStrideStepsVisitEachSlotOnceSpec) :=
  OpenClaim.holds_of_wide 4 Try.f4 rfl rfl rfl rfl rfl rfl rfl ⟨rfl, rfl, rfl, rfl, rfl⟩ rfl rfl rfl rfl rfl (by kernel_rfl) Try.func4 (by kernel_rfl)
    (of_decide_eq_true (by kernel_rfl)) (by unfold Func.isWrapper; first | (rw [if_pos (by decide +kernel)]; kernel_rfl) | (rw [if_neg (by decide +kernel)]; exact ⟨rfl, rfl⟩))
    (fun os started H enc _ => lifted os started H enc)

/-- ████ THE STATEMENT ████ -/
theorem proved : Rows.FnSpreadStrideStepsVisitEachSlotOnceSaid :=
  over
end Go.Proofs.Qxb6603030a.fnSpreadStrideStepsVisitEachSlotOnce
