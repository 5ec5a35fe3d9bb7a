/-
  A proof of 'Rows.FnSpreadStrideIsLeastCoprimeFrom37Said': the frame is the kit's shell for this function; the walk and all that it imports from this seat are ours.
-/
import Derived.Test.Qxb6603030aRows
import Derived.Test.Qxb6603030aStrideWalk
import Derived.WalkKit
import Derived.ProofKit
import Derived.OpenShut
import Derived.ShutString
namespace Go.Proofs.Qxb6603030a.fnSpreadStrideIsLeastCoprimeFrom37
open Go.ChangeShapes Go.WideShapes Go.ChangeAt Go.RowKit
open Go.ChangeMaps (open_string shut_string)
set_option linter.unusedVariables false      -- a walk need not use every 'w<i>' (that an integer argument fits its kind)

theorem own : ownKnob Try.prog.godebug = none := by kernel_rfl

/-! ### STEP 1: THE WALK: the Go text returns true. 'Grown w w'': the world has at most new blocks (Derived/RowKit3.lean). Part the cases AHEAD of 'go_enter' where a test parts the walk; take each callee by a contract of your own. -/
/-- What the law's own scan from 67 down to t knows. -/
def Scan (w t v : Nat) : Prop :=
  (v = 0 ∧ ∀ u, t < u → u ≤ 67 → Nat.gcd u w ≠ 1) ∨ (t < v ∧ v ≤ 67 ∧ Nat.gcd v w = 1 ∧ ∀ u, t < u → u < v → Nat.gcd u w ≠ 1)
theorem scan_hit {w t : Nat} (ht : t + 1 ≤ 67) (h : Nat.gcd (t + 1) w = 1) : Scan w t (t + 1) :=
  Or.inr ⟨by omega, ht, h, fun u h1 h2 => absurd h2 (by omega)⟩
theorem scan_miss {w t v : Nat} (hs : Scan w (t + 1) v) (h : Nat.gcd (t + 1) w ≠ 1) : Scan w t v := by
  rcases hs with ⟨h0, hall⟩ | ⟨h1, h2, h3, hall⟩
  · refine Or.inl ⟨h0, fun u hu1 hu2 => ?_⟩
    by_cases e : u = t + 1
    · subst e; exact h
    · exact hall u (by omega) hu2
  · refine Or.inr ⟨by omega, h2, h3, fun u hu1 hu2 => ?_⟩
    by_cases e : u = t + 1
    · subst e; exact h
    · exact hall u (by omega) hu2
theorem scan_end {w s v : Nat} (h1 : 1 ≤ w) (hw : w < 39181802686993) (hl : Stride.Least s w) (hs : Scan w 36 v) : v = s := by
  rcases hs with ⟨_, hall⟩ | ⟨a, b, c, hall⟩
  · exact absurd (fun t h3 h4 => hall t (by omega) h4) (Stride.exists_coprime w h1 hw)
  · exact Stride.least_unique ⟨by omega, b, c, fun u h3 h4 => hall u (by omega) h4⟩ hl

set_option maxHeartbeats 1000000 in
theorem walk_in (a : Nat) (h1 : 1 ≤ a) (ha : a < 39181802686993) (w : World) :
    Calls Try.prog 3 #[.int .i64 (a : Int)] w fun e w' => e = .returned (.bool true) ∧ Grown w w' := by
  have hi1 : ¬ (a : Int) < 1 := by omega
  have hi2 : ¬ (39181802686993 : Int) ≤ (a : Int) := by omega
  go_enter Try.func3, Try.ntmps3
  go_wp2_with fail
  refine (zzStride_any a _ ha h1).mono ?_
  rintro e w1 ⟨s, rfl, hl, n, rfl⟩
  have HL : Hid (Stride.Least s a) := hl
  have HA : Hid (a < 39181802686993) := ha
  have H1 : Hid (1 ≤ a) := h1
  clear hl hi1 hi2 ha h1
  go_wp2
  go_loop [4, 5] (fun v t => ∃ (vv tt : Nat), v = .int .i64 (vv : Int) ∧ t = .int .i64 (tt : Int) ∧ 36 ≤ tt ∧ tt ≤ 67 ∧ Scan a tt vv) (fun _ t => (intOf t).toNat)
  case atStart => exact ⟨0, 67, rfl, rfl, by omega, by omega, Or.inl ⟨rfl, fun u h3 h4 => absurd h4 (by omega)⟩⟩
  case round =>
    obtain ⟨vv, tt, rfl, rfl, ht1, ht2, hs⟩ := hrel
    have HS : Hid (Scan a tt vv) := hs
    clear hs
    by_cases hlt : 37 ≤ tt
    · have et : tt - 1 + 1 = tt := by omega
      have ET : Hid (tt - 1 + 1 = tt) := et
      clear et
      by_cases hg : Nat.gcd tt a = 1
      · have HT : Hid (Stride.copB tt a = true) := Stride.copB_true hg
        have HN : Hid (Scan a (tt - 1) tt) := by
          have := scan_hit (w := a) (t := tt - 1) (by omega) (by rw [ET.out]; exact hg)
          rw [ET.out] at this
          exact this
        clear hg
        go_wp2_with fail
        refine (coprime_any tt a _ HA.out (by omega) ht2).mono ?_
        rintro e w1 ⟨rfl, rfl⟩
        rw [HT.out]
        go_wp2
        go_round
        case rel => exact ⟨tt, tt - 1, rfl, by go_num, by omega, by omega, HN.out⟩
        case measure => simp [intOf]; omega
      · have HT : Hid (Stride.copB tt a = false) := Stride.copB_false hg
        have HN : Hid (Scan a (tt - 1) vv) := scan_miss (by rw [ET.out]; exact HS.out) (by rw [ET.out]; exact hg)
        clear hg
        go_wp2_with fail
        refine (coprime_any tt a _ HA.out (by omega) ht2).mono ?_
        rintro e w1 ⟨rfl, rfl⟩
        rw [HT.out]
        go_wp2
        go_round
        case rel => exact ⟨vv, tt - 1, rfl, by go_num, by omega, by omega, HN.out⟩
        case measure => simp [intOf]; omega
    · obtain rfl : tt = 36 := by omega
      obtain rfl : vv = s := scan_end H1.out HA.out HL.out HS.out
      have hs0 : ((vv : Int) != 0) = true := by rw [bne_iff_ne]; have := HL.out.lo; omega
      have hs1 : ((vv : Int) == (vv : Int)) = true := by simp
      go_wp2
      go_ret
      exact ⟨rfl, Grown.refl _⟩

set_option maxHeartbeats 400000 in
theorem walk (a0 : Int) (w0 : (Lit.int .i64 a0).wf = true) (w : World) :
    Calls Try.prog 3 #[.int .i64 a0] w fun e w' => e = .returned (.bool true) ∧ Grown w w' := by
  clear w0
  by_cases h1 : a0 < 1
  · go_enter Try.func3, Try.ntmps3
    go_wp2
    go_ret
    exact ⟨rfl, Grown.refl _⟩
  by_cases h2 : 39181802686993 ≤ a0
  · go_enter Try.func3, Try.ntmps3
    go_wp2
    go_ret
    exact ⟨rfl, Grown.refl _⟩
  obtain ⟨a, rfl⟩ := Int.eq_ofNat_of_zero_le (show 0 ≤ a0 by omega)
  exact walk_in a (by omega) (by omega) w

/-! ### THE ROW's STEP: WRITTEN OUT: LEAVE IT -/
set_option maxRecDepth 100000 in
theorem lifted (os : Os) (started : os.Started) (H : Type) (enc : TypeId × Value → H) :
    ReturnsInHanded {} Try.checked os 3 .any (Rows.fnSpreadStrideIsLeastCoprimeFrom37Spec.pre6 enc Try.prog Try.f3 Rows.fnSpreadStrideIsLeastCoprimeFrom37Row.domain false) (Rows.fnSpreadStrideIsLeastCoprimeFrom37Spec.post enc Try.prog Try.f3 false true false false) := by
  refine returnsInHanded_of_change (C := Try.checked) own started (by kernel_rfl) Try.func3
    (ChangeSpec.witness6 (enc := enc) (C := Try.checked) false ⟨#[], #[.int .i64 0], []⟩ 8 (by kernel_rfl) (by kernel_rfl) (by kernel_rfl) (by kernel_rfl)) ?_
  intro W base args ds gs before hval0 hW hcnd _
  have hval : ∀ (j : Nat) t v, Try.f3.params[j]? = some t → args[j]? = some v → Value.okWide Try.prog W .any base t v := hval0
  have hW' := hW
  obtain ⟨p, q, hA0, hV, rfl, hfz, hnd⟩ := hW
  have hA : DataW.TrodAll enc Try.prog W 0 (fun _ => true) true Try.f3.params.toList args.toList ds p := hA0
  rw [Try.params3] at hA hval
  obtain ⟨v0, vs0, d0, ds0, p0, q0, hargs, rfl, rfl, h0, r0⟩ := trodAll_cons hA
  obtain ⟨rfl, rfl, rfl⟩ := trodAll_nil r0
  obtain rfl : args = #[v0] := by cases args; simp_all
  obtain ⟨rfl, rfl⟩ := trodVars_none hV
  obtain ⟨a0, rfl, rfl, rfl, w0⟩ := open_int Try.underlying2 (hval 0 2 v0 rfl rfl) h0
  clear hA0 hval0
  simp only [List.append_nil] at hW'
  refine (walk a0 w0 W).mono fun e W' ⟨he, hg⟩ => ?_
  subst he
  exact ⟨_, rfl, post_of_same (pa := []) (pv := []) hW' (fun _ _ _ => (trodAll_cons_mk (shut_bool Try.underlying4 _) trodAll_mk0)) (fun sp _ => (trodAll_cons_mk (shut_int Try.underlying2 w0) trodAll_mk0)) (fun _ _ => rfl) rfl
    (hg.frame _) hg.2.1 (ok_one (by kernel_rfl) rfl (okWide_bool_mk Try.underlying4 _))⟩

theorem over : Rows.fnSpreadStrideIsLeastCoprimeFrom37Row.holds Try.pinned (OpenSpec.ofChange Rows.fnSpreadStrideIsLeastCoprimeFrom37Spec) :=
  OpenClaim.holds_of_wide 3 Try.f3 rfl rfl rfl rfl rfl rfl rfl ⟨rfl, rfl, rfl, rfl, rfl⟩ rfl rfl rfl rfl rfl (by kernel_rfl) Try.func3 (by kernel_rfl)
    (of_decide_eq_true (by kernel_rfl)) (by unfold Func.isWrapper; first | (rw [if_pos (by decide +kernel)]; kernel_rfl) | (rw [if_neg (by decide +kernel)]; exact ⟨rfl, rfl⟩))
    (fun os started H enc _ => lifted os started H enc)

/-- ████ THE STATEMENT ████ -/
theorem proved : Rows.FnSpreadStrideIsLeastCoprimeFrom37Said :=
  over
end Go.Proofs.Qxb6603030a.fnSpreadStrideIsLeastCoprimeFrom37
