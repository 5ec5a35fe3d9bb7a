/-
  A proof of 'Rows.FnInfinitePartReservedOnlyForNoUnitSaid': the frame is the kit's shell for this function; the walk and all that it imports from this seat are ours.
-/
import Derived.Test.Qxb6602801aRows
import Derived.Test.Qxb6602801aInf
import Derived.WalkKit
import Derived.ProofKit
import Derived.OpenShut
import Derived.ShutString
namespace Go.Proofs.Qxb6602801a.fnInfinitePartReservedOnlyForNoUnit
open Go.ChangeShapes Go.WideShapes Go.ChangeAt Go.RowKit
open Go.ChangeMaps (open_string shut_string)
set_option linter.unusedVariables false      -- a walk need not use every 'w<i>' (that an integer argument fits its kind)

theorem own : ownKnob Try.prog.godebug = none := by kernel_rfl

/-! ### STEP 1: THE WALK: the Go text returns true. 'Grown w w'': the world has at most new blocks (Derived/RowKit3.lean). Part the cases AHEAD of 'go_enter' where a test parts the walk; take each callee by a contract of your own. -/
set_option maxHeartbeats 400000 in
theorem zz_none (t : Bool) (w : World) :
    Calls Try.prog 13 #[.int .u8 0, .bool false, .bool t] w fun e w' => e = .returned (.int .u8 4) ∧ w' = w := by
  go_enter Try.func13, Try.ntmps13
  go_wp2_with (go_at_call 15; refine (inf_none _ _).mono ?_; rintro e w' ⟨rfl, rfl⟩)
  go_ret
  exact ⟨rfl, rfl⟩

set_option maxHeartbeats 400000 in
theorem zz_rest (u : Int) (r t : Bool) (hg : (u == 0) = false ∨ r = true) (w : World) :
    Calls Try.prog 13 #[.int .u8 u, .bool r, .bool t] w fun e w' => e = .returned (.int .u8 (ipRest u t)) ∧ w' = w := by
  have HG : Hid ((u == 0) = false ∨ r = true) := hg
  clear hg
  go_enter Try.func13, Try.ntmps13
  go_wp2_with (go_at_call 15; refine (inf_rest _ _ _ HG.out _).mono ?_; rintro e w' ⟨rfl, rfl⟩)
  go_ret
  exact ⟨rfl, rfl⟩

set_option maxHeartbeats 400000 in
theorem walk (a0 : Int) (a1 : Bool) (w0 : (Lit.int .u8 a0).wf = true) (w : World) :
    Calls Try.prog 6 #[.int .u8 a0, .bool a1] w fun e w' => e = .returned (.bool true) ∧ Grown w w' := by
  by_cases h : (a0 == 0) = true
  · rw [beq_iff_eq] at h
    subst h
    clear w0
    have hne : (ipRest 0 a1 == 4) = false := beq_eq_false_iff_ne.2 (ipRest_ne 0 a1)
    have hne2 : (ipRest 0 a1 != 4) = true := by rw [bne, hne]; rfl
    go_enter Try.func6, Try.ntmps6
    go_wp2_with fail
    refine (zz_none _ _).mono ?_
    rintro e w' ⟨rfl, rfl⟩
    go_wp2_with fail
    refine (zz_rest _ _ _ (Or.inr rfl) _).mono ?_
    rintro e w' ⟨rfl, rfl⟩
    go_wp2
    go_ret
    exact ⟨rfl, Grown.refl _⟩
  · have h' : (a0 == 0) = false := by simpa using h
    have HG : Hid ((a0 == 0) = false) := h'
    have hb : (a0 != 0) = true := by rw [bne, h']; rfl
    clear h h' w0
    have hne : (ipRest a0 a1 == 4) = false := beq_eq_false_iff_ne.2 (ipRest_ne a0 a1)
    have hne2 : (ipRest a0 a1 != 4) = true := by rw [bne, hne]; rfl
    go_enter Try.func6, Try.ntmps6
    go_wp2_with fail
    refine (zz_rest _ _ _ (Or.inl HG.out) _).mono ?_
    rintro e w' ⟨rfl, rfl⟩
    go_wp2_with fail
    refine (zz_rest _ _ _ (Or.inr rfl) _).mono ?_
    rintro e w' ⟨rfl, rfl⟩
    go_wp2
    go_ret
    exact ⟨rfl, Grown.refl _⟩

/-! ### THE ROW's STEP: WRITTEN OUT: LEAVE IT -/
set_option maxRecDepth 100000 in
theorem lifted (os : Os) (started : os.Started) (H : Type) (enc : TypeId × Value → H) :
    ReturnsInHanded {} Try.checked os 6 .any (Rows.fnInfinitePartReservedOnlyForNoUnitSpec.pre6 enc Try.prog Try.f6 Rows.fnInfinitePartReservedOnlyForNoUnitRow.domain false) (Rows.fnInfinitePartReservedOnlyForNoUnitSpec.post enc Try.prog Try.f6 false true false false) := by
  refine returnsInHanded_of_change (C := Try.checked) own started (by kernel_rfl) Try.func6
    (ChangeSpec.witness6 (enc := enc) (C := Try.checked) false ⟨#[], #[.int .u8 0, .bool false], []⟩ 8 (by kernel_rfl) (by kernel_rfl) (by kernel_rfl) (by kernel_rfl)) ?_
  intro W base args ds gs before hval0 hW hcnd _
  have hval : ∀ (j : Nat) t v, Try.f6.params[j]? = some t → args[j]? = some v → Value.okWide Try.prog W .any base t v := hval0
  have hW' := hW
  obtain ⟨p, q, hA0, hV, rfl, hfz, hnd⟩ := hW
  have hA : DataW.TrodAll enc Try.prog W 0 (fun _ => true) true Try.f6.params.toList args.toList ds p := hA0
  rw [Try.params6] at hA hval
  obtain ⟨v0, vs0, d0, ds0, p0, q0, hargs, rfl, rfl, h0, r0⟩ := trodAll_cons hA
  obtain ⟨v1, vs1, d1, ds1, p1, q1, rfl, rfl, rfl, h1, r1⟩ := trodAll_cons r0
  obtain ⟨rfl, rfl, rfl⟩ := trodAll_nil r1
  obtain rfl : args = #[v0, v1] := by cases args; simp_all
  obtain ⟨rfl, rfl⟩ := trodVars_none hV
  obtain ⟨a0, rfl, rfl, rfl, w0⟩ := open_int Try.underlying5 (hval 0 5 v0 rfl rfl) h0
  obtain ⟨a1, rfl, rfl, rfl⟩ := open_bool Try.underlying4 (hval 1 4 v1 rfl rfl) h1
  clear hA0 hval0
  simp only [List.append_nil] at hW'
  refine (walk a0 a1 w0 W).mono fun e W' ⟨he, hg⟩ => ?_
  subst he
  exact ⟨_, rfl, post_of_same (pa := []) (pv := []) hW' (fun _ _ _ => (trodAll_cons_mk (shut_bool Try.underlying4 _) trodAll_mk0)) (fun sp _ => (trodAll_cons_mk (shut_int Try.underlying5 w0) (trodAll_cons_mk (shut_bool Try.underlying4 _) trodAll_mk0))) (fun _ _ => rfl) rfl
    (hg.frame _) hg.2.1 (ok_one (by kernel_rfl) rfl (okWide_bool_mk Try.underlying4 _))⟩

theorem over : Rows.fnInfinitePartReservedOnlyForNoUnitRow.holds Try.pinned (OpenSpec.ofChange Rows.fnInfinitePartReservedOnlyForNoUnitSpec) :=
  OpenClaim.holds_of_wide 6 Try.f6 rfl rfl rfl rfl rfl rfl rfl ⟨rfl, rfl, rfl, rfl, rfl⟩ rfl rfl rfl rfl rfl (by kernel_rfl) Try.func6 (by kernel_rfl)
    (of_decide_eq_true (by kernel_rfl)) (by unfold Func.isWrapper; first | (rw [if_pos (by decide +kernel)]; kernel_rfl) | (rw [if_neg (by decide +kernel)]; exact ⟨rfl, rfl⟩))
    (fun os started H enc _ => lifted os started H enc)

/-- ████ THE STATEMENT ████ -/
theorem proved : Rows.FnInfinitePartReservedOnlyForNoUnitSaid :=
  over
end Go.Proofs.Qxb6602801a.fnInfinitePartReservedOnlyForNoUnit
