/-
  A proof of 'Rows.FnExpBoundedByTheDrawsItTakesSaid': the frame is the kit's shell for this function; the walk and all that it imports from this seat are ours.
-/
import Derived.Test.Qxb6603030aRows
import Derived.Test.Qxb6603030aExpWalk
import Derived.WalkKit
import Derived.ProofKit
import Derived.OpenShut
import Derived.ShutString
namespace Go.Proofs.Qxb6603030a.fnExpBoundedByTheDrawsItTakes
open Go.ChangeShapes Go.WideShapes Go.ChangeAt Go.RowKit
open Go.ChangeMaps (open_string shut_string)
set_option linter.unusedVariables false      -- a walk need not use every 'w<i>' (that an integer argument fits its kind)

theorem own : ownKnob Try.prog.godebug = none := by kernel_rfl

/-! ### STEP 1: THE WALK: the Go text returns true. 'Grown w w'': the world has at most new blocks (Derived/RowKit3.lean). Part the cases AHEAD of 'go_enter' where a test parts the walk; take each callee by a contract of your own. -/
set_option maxHeartbeats 400000 in
theorem zzExp_any (a : Int) (N : Nat) (w : World) (h0 : 0 ≤ a) (h1 : a ≤ 18446744073709551615) (hN : N < 4096) (hF : Draw.First (ud a) N) :
    Calls Try.prog 9 #[.int .u64 a] w fun e w' => ∃ V, e = .returned (.tuple #[.float .f64 V, .int .u64 (stt a (N + 1))]) ∧ Ans (Draw.M (ud a) N).wh (Draw.M (ud a) N).fi V ∧ Grown w w' := by
  have HF : Hid (Draw.First (ud a) N) := hF
  clear hF
  go_enter Try.func9, Try.ntmps9
  go_wp2_with fail
  refine (exp_any a N w.heap.size w _ h0 h1 hN HF.out (by simp) (by simp) (Grown.alloc (Grown.refl _) _ _) (Nat.le_refl _)).mono ?_
  rintro e w1 ⟨V, rfl, hA, hc, hg⟩
  have HA : Hid (Ans (Draw.M (ud a) N).wh (Draw.M (ud a) N).fi V) := hA
  have HG : Hid (Grown w w1) := hg
  clear hA hg
  go_wp2
  go_region
  go_wp2
  go_ret2
  exact ⟨V, rfl, HA.out, HG.out⟩

theorem stt_eq (a : Int) (h0 : 0 ≤ a) (h1 : a ≤ 18446744073709551615) (i : Nat) : stt a i = (a + (i : Int) * 11400714819323198485) % 18446744073709551616 := by
  induction i with
  | zero => show a = _; omega
  | succ i ih =>
    show nx (stt a i) = _
    rw [nx, IntKind.wrap_u64, ih]
    omega
/-- The number of draws, read off the state by the inverse of the step. -/
theorem count_eq (a : Int) (h0 : 0 ≤ a) (h1 : a ≤ 18446744073709551615) (i : Nat) (hi : i ≤ 4096) :
    IntKind.u64.wrap (IntKind.u64.wrap (stt a i - a) * newton 5) = (i : Int) := by
  rw [IntKind.wrap_u64, IntKind.wrap_u64, stt_eq a h0 h1 i, newton_five]
  have e : ((a + (i : Int) * 11400714819323198485) % 18446744073709551616 - a) % 18446744073709551616 = ((i : Int) * 11400714819323198485) % 18446744073709551616 := by omega
  rw [e, Int.mul_emod, Int.emod_emod, ← Int.mul_emod, Int.mul_assoc]
  have e2 : (11400714819323198485 * 17428512612931826493 : Int) = 1 + 18446744073709551616 * 10771413168148108919 := by decide +kernel
  rw [e2]
  omega

theorem ret_true {b : Bool} (h : b = true) : Ending.returned (.bool b) = .returned (.bool true) := by rw [h]
theorem zero_cases {V : Nat} (h : V < Fl.inf) : (Ieee.double.order V 0 == some .gt) = true ∨ ((Ieee.double.order V 0 == some .gt) = false ∧ (Ieee.double.order V 0 == some .eq) = true) := by
  rw [Fl.order_pos h (by decide), Fl.U_zero]
  rcases Nat.eq_zero_or_pos (Fl.U V) with h0 | h0
  · right; rw [h0]; exact ⟨rfl, rfl⟩
  · left; rw [Nat.compare_eq_gt.2 h0]; rfl

set_option exponentiation.threshold 3000 in
theorem low_lt {V fi : Nat} (h : Fl.U V = fi * 2 ^ 1021) (hf : fi < 2 ^ 53) : Fl.U V < 2 ^ 1074 := by
  rw [h, show (2 : Nat) ^ 1074 = 2 ^ 53 * 2 ^ 1021 from by rw [← Nat.pow_add]]
  exact (Nat.mul_lt_mul_right (Nat.two_pow_pos 1021)).2 hf

/-- What the law asks of the floats. -/
structure Facts (V n : Nat) : Prop where
  zero : (Ieee.double.order V 0 == some .gt) = true ∨ ((Ieee.double.order V 0 == some .gt) = false ∧ (Ieee.double.order V 0 == some .eq) = true)
  bound : ∃ T T3, Ieee.double.sub V Fl.one = some T ∧ Ieee.double.mul Fl.three T = some T3 ∧ (Ieee.double.order T3 (Fl.F (n - 2)) == some .gt) = false

set_option exponentiation.threshold 3000 in
theorem facts_low {fi V n : Nat} (h : Ans 0 fi V) (hf : fi < 2 ^ 53) (hn : n ≤ 4096) :
    Facts V n ∧ (Ieee.double.order V Fl.one == some .lt) = true ∧ Ieee.double.mul V Fl.huge = some (Fl.F fi) := by
  obtain ⟨P, h1, h2, h3, h4⟩ := h
  obtain ⟨V', h5, h6, h7, _⟩ := Fl.add_answer (wh := 0) (by decide) hf h2 h3
  rw [h4] at h5
  cases h5
  have hu := h7 rfl
  have hlt := low_lt hu hf
  refine ⟨⟨zero_cases h6, Fl.bound_neg h6 hlt (by omega)⟩, ?_, Fl.mul_huge h6 hf hu⟩
  exact Fl.order_lt h6 Fl.one_spec.1 (by rw [Fl.one_spec.2]; exact hlt)

set_option exponentiation.threshold 3000 in
theorem facts_high {wh fi V n : Nat} (h : Ans wh fi V) (hw1 : 1 ≤ wh) (hf : fi < 2 ^ 53) (hn : n ≤ 4096) (hw : 3 * wh ≤ n - 2) :
    Facts V n ∧ (Ieee.double.order V Fl.one == some .lt) = false := by
  obtain ⟨P, h1, h2, h3, h4⟩ := h
  obtain ⟨V', h5, h6, _, h8⟩ := Fl.add_answer (wh := wh) (by omega) hf h2 h3
  rw [h4] at h5
  cases h5
  obtain ⟨hlo, hhi⟩ := h8 hw1
  refine ⟨⟨zero_cases h6, Fl.bound_pos (by omega) h6 hlo hhi (by omega) hw⟩, ?_⟩
  exact Fl.order_not_lt h6 Fl.one_spec.1 (by rw [Fl.one_spec.2]; exact hlo)

theorem toInt_val {fi : Nat} (hf : fi < 2 ^ 53) : floatToIntVal .f64 (Fl.F fi) .u64 = some (fi : Int) := by
  unfold floatToIntVal
  have e : (FloatKind.f64.decode (Fl.F fi)).toInt .zero = some (fi : Int) := Fl.toInt_F hf
  rw [e]
  have hmin : IntKind.u64.min = 0 := by decide
  have hmax : IntKind.u64.max = 18446744073709551615 := by decide
  simp only [hmin, hmax]
  rw [if_pos (by omega)]

set_option maxHeartbeats 1000000 in
theorem walk (a0 : Int) (w0 : (Lit.int .u64 a0).wf = true) (w : World) :
    Calls Try.prog 5 #[.int .u64 a0] w fun e w' => e = .returned (.bool true) ∧ Grown w w' := by
  have hb := bounds_u64 w0
  obtain ⟨h0, h1⟩ := hb
  clear w0
  go_enter Try.func5, Try.ntmps5
  go_wp2_with fail
  refine (ends_any a0 _ h0 h1).mono ?_
  rintro e w1 ⟨b, rfl, hE, hg1⟩
  cases b
  · clear hE
    go_wp2
    go_ret
    exact ⟨rfl, hg1⟩
  · obtain ⟨N, hN, hF⟩ := hE rfl
    have HF : Hid (Draw.First (ud a0) N) := hF
    have HG1 : Hid (Grown w w1) := hg1
    clear hF hg1 hE
    go_wp2_with fail
    refine (zzExp_any a0 N _ h0 h1 hN HF.out).mono ?_
    rintro e w2 ⟨V, rfl, hA, hg2⟩
    have HG2 : Hid (Grown w w2) := grown_trans HG1.out hg2
    have HA : Hid (Ans (Draw.M (ud a0) N).wh (Draw.M (ud a0) N).fi V) := hA
    clear hg2 hA HG1
    go_wp2_with fail
    refine (inv_any _).mono ?_
    rintro e w3 ⟨rfl, rfl⟩
    have hcnt := count_eq a0 h0 h1 (N + 1) (by omega)
    obtain ⟨q1, q2, q3⟩ := Draw.counts (ud_lt a0) N HF.out.none
    obtain ⟨o1, o2⟩ := Draw.first_odd HF.out
    generalize (Draw.M (ud a0) N).wh = wh at *
    generalize (Draw.M (ud a0) N).fi = fi at *
    generalize (Draw.M (ud a0) N).ru = ru at *
    clear HF
    generalize stt a0 (N + 1) = s at *
    generalize newton 5 = iv at *
    obtain ⟨n, hn⟩ : ∃ n, n = N + 1 := ⟨_, rfl⟩
    rw [← hn] at hcnt
    have hn1 : (2 : Int) ≤ (n : Int) := by omega
    have hn2 : (n : Int) ≤ 4096 := by omega
    have hfn : floatOfInt .f64 ((n : Int) - 2) = Fl.F (n - 2) := by
      rw [show (n : Int) - 2 = ((n - 2 : Nat) : Int) from by omega]; exact floatOf _
    by_cases hw0 : wh = 0
    · subst hw0
      obtain ⟨⟨hz, T, T3, t1, t2, t3⟩, hlt, hmh⟩ := facts_low HA.out q3 (n := n) (by omega)
      have hsub := fun w => run_float_arith (P := Try.prog) w .sub 28 .f64 V 4607182418800017408 T t1
      have hmul := fun w => run_float_arith (P := Try.prog) w .mul 28 .f64 4613937818241073152 T T3 t2
      have hmul2 := fun w => run_float_arith (P := Try.prog) w .mul 28 .f64 V 4845873199050653696 (Fl.F fi) hmh
      have hlt' : (FloatKind.f64.format.order V 4607182418800017408 == some .lt) = true := hlt
      have ht3 : (FloatKind.f64.format.order T3 (Fl.F (n - 2)) == some .gt) = false := t3
      have hcv := fun w => run_convert_float_int (P := Try.prog) w 28 26 .f64 .u64 (Fl.F fi) (fi : Int) (by rw [Try.underlying28]; rfl) Try.underlying26 (toInt_val q3)
      have hff := floatOf fi
      have heq : (FloatKind.f64.format.order (Fl.F fi) (Fl.F fi) == some .eq) = true := Fl.order_refl (Fl.F_spec q3).1
      have hev : ((n : Int) % 2 != 0) = false := by
        have := q2 rfl
        rw [bne_eq_false_iff_eq]; omega
      clear hlt t1 t2 t3 hmh HA q1 q2 q3 o1 o2 hn hN
      generalize Fl.F fi = ff at *
      generalize Fl.F (n - 2) = fn at *
      rcases hz with hz | ⟨hz, hz2⟩
      · have hz' : (FloatKind.f64.format.order V 0 == some .gt) = true := hz
        clear hz
        go_wp2
        go_ret
        exact ⟨rfl, HG2.out⟩
      · have hz' : (FloatKind.f64.format.order V 0 == some .gt) = false := hz
        have hz2' : (FloatKind.f64.format.order V 0 == some .eq) = true := hz2
        clear hz hz2
        go_wp2
        go_ret
        exact ⟨rfl, HG2.out⟩
    · obtain ⟨⟨hz, T, T3, t1, t2, t3⟩, hlt⟩ := facts_high HA.out (by omega) q3 (n := n) (by omega) (by omega)
      have hsub := fun w => run_float_arith (P := Try.prog) w .sub 28 .f64 V 4607182418800017408 T t1
      have hmul := fun w => run_float_arith (P := Try.prog) w .mul 28 .f64 4613937818241073152 T T3 t2
      have hlt' : (FloatKind.f64.format.order V 4607182418800017408 == some .lt) = false := hlt
      have ht3 : (FloatKind.f64.format.order T3 (Fl.F (n - 2)) == some .gt) = false := t3
      have hn5 : (5 : Int) ≤ (n : Int) := by omega
      clear hlt t1 t2 t3 HA q1 q2 q3 o1 o2 hn hN hw0
      generalize Fl.F (n - 2) = fn at *
      rcases hz with hz | ⟨hz, hz2⟩
      · have hz' : (FloatKind.f64.format.order V 0 == some .gt) = true := hz
        clear hz
        go_wp2
        go_ret
        exact ⟨ret_true (by simp), HG2.out⟩
      · have hz' : (FloatKind.f64.format.order V 0 == some .gt) = false := hz
        have hz2' : (FloatKind.f64.format.order V 0 == some .eq) = true := hz2
        clear hz hz2
        go_wp2
        go_ret
        exact ⟨ret_true (by simp), HG2.out⟩

/-! ### THE ROW's STEP: WRITTEN OUT: LEAVE IT -/
set_option maxRecDepth 100000 in
theorem lifted (os : Os) (started : os.Started) (H : Type) (enc : TypeId × Value → H) :
    ReturnsInHanded {} Try.checked os 5 .any (Rows.fnExpBoundedByTheDrawsItTakesSpec.pre6 enc Try.prog Try.f5 Rows.fnExpBoundedByTheDrawsItTakesRow.domain false) (Rows.fnExpBoundedByTheDrawsItTakesSpec.post enc Try.prog Try.f5 false true false false) := by
  refine returnsInHanded_of_change (C := Try.checked) own started (by kernel_rfl) Try.func5
    (ChangeSpec.witness6 (enc := enc) (C := Try.checked) false ⟨#[], #[.int .u64 0], []⟩ 8 (by kernel_rfl) (by kernel_rfl) (by kernel_rfl) (by kernel_rfl)) ?_
  intro W base args ds gs before hval0 hW hcnd _
  have hval : ∀ (j : Nat) t v, Try.f5.params[j]? = some t → args[j]? = some v → Value.okWide Try.prog W .any base t v := hval0
  have hW' := hW
  obtain ⟨p, q, hA0, hV, rfl, hfz, hnd⟩ := hW
  have hA : DataW.TrodAll enc Try.prog W 0 (fun _ => true) true Try.f5.params.toList args.toList ds p := hA0
  rw [Try.params5] at hA hval
  obtain ⟨v0, vs0, d0, ds0, p0, q0, hargs, rfl, rfl, h0, r0⟩ := trodAll_cons hA
  obtain ⟨rfl, rfl, rfl⟩ := trodAll_nil r0
  obtain rfl : args = #[v0] := by cases args; simp_all
  obtain ⟨rfl, rfl⟩ := trodVars_none hV
  obtain ⟨a0, rfl, rfl, rfl, w0⟩ := open_int Try.underlying26 (hval 0 26 v0 rfl rfl) h0
  clear hA0 hval0
  simp only [List.append_nil] at hW'
  refine (walk a0 w0 W).mono fun e W' ⟨he, hg⟩ => ?_
  subst he
  exact ⟨_, rfl, post_of_same (pa := []) (pv := []) hW' (fun _ _ _ => (trodAll_cons_mk (shut_bool Try.underlying4 _) trodAll_mk0)) (fun sp _ => (trodAll_cons_mk (shut_int Try.underlying26 w0) trodAll_mk0)) (fun _ _ => rfl) rfl
    (hg.frame _) hg.2.1 (ok_one (by kernel_rfl) rfl (okWide_bool_mk Try.underlying4 _))⟩

theorem over : Rows.fnExpBoundedByTheDrawsItTakesRow.holds Try.pinned (OpenSpec.ofChange Rows.fnExpBoundedByTheDrawsItTakesSpec) :=
  OpenClaim.holds_of_wide 5 Try.f5 rfl rfl rfl rfl rfl rfl rfl ⟨rfl, rfl, rfl, rfl, rfl⟩ rfl rfl rfl rfl rfl (by kernel_rfl) Try.func5 (by kernel_rfl)
    (of_decide_eq_true (by kernel_rfl)) (by unfold Func.isWrapper; first | (rw [if_pos (by decide +kernel)]; kernel_rfl) | (rw [if_neg (by decide +kernel)]; exact ⟨rfl, rfl⟩))
    (fun os started H enc _ => lifted os started H enc)

/-- ████ THE STATEMENT ████ -/
theorem proved : Rows.FnExpBoundedByTheDrawsItTakesSaid :=
  over
end Go.Proofs.Qxb6603030a.fnExpBoundedByTheDrawsItTakes
