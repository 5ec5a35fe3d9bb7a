/-
  A proof of 'Rows.FnParseExponentReadsBackDecimalSaid': the frame is the kit's shell for this function; the walk and all that it imports from this seat are ours.
-/
import Derived.Test.Qxb6602801aRows
import Derived.Test.Qxb6602801aExpText
import Derived.WalkKit
import Derived.ProofKit
import Derived.OpenShut
import Derived.ShutString
namespace Go.Proofs.Qxb6602801a.fnParseExponentReadsBackDecimal
open Go.ChangeShapes Go.WideShapes Go.ChangeAt Go.RowKit
open Go.ChangeMaps (open_string shut_string)
set_option linter.unusedVariables false      -- a walk need not use every 'w<i>' (that an integer argument fits its kind)

theorem own : ownKnob Try.prog.godebug = none := by kernel_rfl

/-! ### STEP 1: THE WALK: the Go text returns true. 'Grown w w'': the world has at most new blocks (Derived/RowKit3.lean). Part the cases AHEAD of 'go_enter' where a test parts the walk; take each callee by a contract of your own. -/
theorem sgn_cases (e : Int) (pl : Bool) : sgn e pl = [] ∨ sgn e pl = [43] ∨ sgn e pl = [45] := by
  unfold sgn
  repeat' split
  all_goals simp
/-- What parseExponent's plain function says of the text of e. -/
theorem pe_of (e : Int) (pl : Bool) (d : Nat) (hd : 1 ≤ d) (hM : e.natAbs < 10 ^ d) :
    ExpPlain.pe (sgn e pl ++ ExpPlain.rd e.natAbs d) = if d ≤ 4 then (e, true) else (0, false) := by
  rw [ExpPlain.pe_text e.natAbs d _ hd hM (sgn_cases e pl)]
  have hx : (if sgn e pl = [45] then -((e.natAbs : Nat) : Int) else ((e.natAbs : Nat) : Int)) = e := by
    by_cases he : e < 0
    · rw [if_pos (by simp [sgn, he])]; omega
    · rw [if_neg (by simp only [sgn, he, if_false]; split <;> decide)]; omega
  rw [hx]

set_option maxHeartbeats 400000 in
theorem walk (a0 : Int) (a1 : Int) (a2 : Bool) (w0 : (Lit.int .i64 a0).wf = true) (w1 : (Lit.int .i64 a1).wf = true) (w : World) :
    Calls Try.prog 4 #[.int .i64 a0, .int .i64 a1, .bool a2] w fun e w' => e = .returned (.bool true) ∧ Below w.heap.size w w' := by
  clear w0 w1
  by_cases h1 : a0 < -99999999
  · go_enter Try.func4, Try.ntmps4
    go_wp2
    go_ret
    exact ⟨rfl, Below.refl _ _⟩
  by_cases h2 : 99999999 < a0
  · go_enter Try.func4, Try.ntmps4
    go_wp2
    go_ret
    exact ⟨rfl, Below.refl _ _⟩
  by_cases h3 : a1 < 0
  · go_enter Try.func4, Try.ntmps4
    go_wp2
    go_ret
    exact ⟨rfl, Below.refl _ _⟩
  by_cases h4 : 8 < a1
  · go_enter Try.func4, Try.ntmps4
    go_wp2
    go_ret
    exact ⟨rfl, Below.refl _ _⟩
  go_enter Try.func4, Try.ntmps4
  go_wp2_with fail
  refine (text_any a0 a1 a2 _ _ _ rfl rfl (by omega) (by omega) (by omega)).mono ?_
  rintro e w1 ⟨d, hd1, hd8, hM, rfl, hb1⟩
  go_wp2_with fail
  refine (zzParse_any _ _).mono ?_
  rintro e w2 ⟨rfl, hb2⟩
  have hb : Below w.heap.size w w2 := hb1.trans (hb2.below _ hb1.size)
  have hp : ExpPlain.pe (sgn a0 a2 ++ ExpPlain.rd a0.natAbs d).toArray.toList = if d ≤ 4 then (a0, true) else (0, false) := by
    rw [List.toList_toArray]; exact pe_of a0 a2 d hd1 hM
  rw [hp]
  clear hp hb1 hb2 hM
  by_cases hd4 : d ≤ 4
  · rw [if_pos hd4]
    have hd4' : (d : Int) ≤ 4 := by omega
    go_wp2
    go_ret
    exact ⟨by simp, hb⟩
  · rw [if_neg hd4]
    have hd4' : ¬ (d : Int) ≤ 4 := by omega
    go_wp2
    go_ret
    exact ⟨by simp, hb⟩

/-! ### THE ROW's STEP: WRITTEN OUT: LEAVE IT -/
set_option maxRecDepth 100000 in
theorem lifted (os : Os) (started : os.Started) (H : Type) (enc : TypeId × Value → H) :
    ReturnsInHanded {} Try.checked os 4 .any (Rows.fnParseExponentReadsBackDecimalSpec.pre6 enc Try.prog Try.f4 Rows.fnParseExponentReadsBackDecimalRow.domain false) (Rows.fnParseExponentReadsBackDecimalSpec.post enc Try.prog Try.f4 false true false false) := by
  refine returnsInHanded_of_change (C := Try.checked) own started (by kernel_rfl) Try.func4
    (ChangeSpec.witness6 (enc := enc) (C := Try.checked) false ⟨#[], #[.int .i64 0, .int .i64 0, .bool false], []⟩ 8 (by kernel_rfl) (by kernel_rfl) (by kernel_rfl) (by kernel_rfl)) ?_
  intro W base args ds gs before hval0 hW hcnd _
  have hval : ∀ (j : Nat) t v, Try.f4.params[j]? = some t → args[j]? = some v → Value.okWide Try.prog W .any base t v := hval0
  have hW' := hW
  obtain ⟨p, q, hA0, hV, rfl, hfz, hnd⟩ := hW
  have hA : DataW.TrodAll enc Try.prog W 0 (fun _ => true) true Try.f4.params.toList args.toList ds p := hA0
  rw [Try.params4] at hA hval
  obtain ⟨v0, vs0, d0, ds0, p0, q0, hargs, rfl, rfl, h0, r0⟩ := trodAll_cons hA
  obtain ⟨v1, vs1, d1, ds1, p1, q1, rfl, rfl, rfl, h1, r1⟩ := trodAll_cons r0
  obtain ⟨v2, vs2, d2, ds2, p2, q2, rfl, rfl, rfl, h2, r2⟩ := trodAll_cons r1
  obtain ⟨rfl, rfl, rfl⟩ := trodAll_nil r2
  obtain rfl : args = #[v0, v1, v2] := by cases args; simp_all
  obtain ⟨rfl, rfl⟩ := trodVars_none hV
  obtain ⟨a0, rfl, rfl, rfl, w0⟩ := open_int Try.underlying3 (hval 0 3 v0 rfl rfl) h0
  obtain ⟨a1, rfl, rfl, rfl, w1⟩ := open_int Try.underlying3 (hval 1 3 v1 rfl rfl) h1
  obtain ⟨a2, rfl, rfl, rfl⟩ := open_bool Try.underlying4 (hval 2 4 v2 rfl rfl) h2
  clear hA0 hval0
  simp only [List.append_nil] at hW'
  refine (walk a0 a1 a2 w0 w1 W).mono fun e W' ⟨he, hg⟩ => ?_
  subst he
  exact ⟨_, rfl, _, _, _, [], _, [], hW', trodAll_mk1 (shut_bool Try.underlying4 _), (trodAll_cons_mk (shut_int Try.underlying3 w0) (trodAll_cons_mk (shut_int Try.underlying3 w1) (trodAll_cons_mk (shut_bool Try.underlying4 _) trodAll_mk0))), rfl, hg.frame _, fun h => by cases h⟩

theorem over : Rows.fnParseExponentReadsBackDecimalRow.holds Try.pinned (OpenSpec.ofChange Rows.fnParseExponentReadsBackDecimalSpec) :=
  OpenClaim.holds_of_wide 4 Try.f4 rfl rfl rfl rfl rfl rfl rfl ⟨rfl, rfl, rfl, rfl, rfl⟩ rfl rfl rfl rfl rfl (by kernel_rfl) Try.func4 (by kernel_rfl)
    (of_decide_eq_true (by kernel_rfl)) (by unfold Func.isWrapper; first | (rw [if_pos (by decide +kernel)]; kernel_rfl) | (rw [if_neg (by decide +kernel)]; exact ⟨rfl, rfl⟩))
    (fun os started H enc _ => lifted os started H enc)

/-- ████ THE STATEMENT ████ -/
theorem proved : Rows.FnParseExponentReadsBackDecimalSaid :=
  over
end Go.Proofs.Qxb6602801a.fnParseExponentReadsBackDecimal
