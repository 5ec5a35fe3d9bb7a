/-
  No cell of these rows narrows 'for every input' (looked for: loops, veiled, ifaces, maps, wideKeys, modest, calm, conditions, laid).
  DERIVED. THE GIVEN ROWS OF THIS SEAT. 3 by the template 'for every input the law returns true; each argument reads behind the call as it read before'; 0 by the template 'total and deterministic' (their statements: Qxb6603030aTotals.lean).
  GIVEN WITH THE SEED: the statements are not yours to turn. If you find one false, say at which input.
  Laid BY PROGRAM, IN A SANDBOX (cutbox-rows.mjs): the forced cells as the released guide's own fill.sh prints them over the translation 0bd1400022568b65… (all of the seat's roots in one cut). By AI agents, Wed Nov 11 2026. No macro, syntax, notation, axiom, sorry.
-/
import Derived.Test.Qxb6603030aChecked
import GoSem.Claim
import GoSem.ClaimJoined
import GoSem.ClaimMapViews
import Derived.JoinedTies
import Derived.KernelRfl
namespace Go.Proofs.Qxb6603030a
/- THE CELL 'sum', in the pinned program and in every row, IS THE sha256 OF THE DUMP (.gsa) THAT Qxb6603030aProg.lean LOADS. Nothing in Lean hashes anything: it is a label: what it is worth is what the hold of that sum in a sandbox is worth. -/
noncomputable def Try.pinned : Pinned := { name := "qxb6603030a", sum := "0bd1400022568b65acfe2b8ef9d69588fcf0d7ec0052da2615b7546ed9f65476", checked := Try.checked }
namespace Rows
def none {H : Type} : Left H := { results := [], args := [] }

/-- 'zzlaws_trace_b1.FnSpreadStrideIsLeastCoprimeFrom37': WHATEVER THE INPUT: true; the input reads as it did. -/
def fnSpreadStrideIsLeastCoprimeFrom37Spec : ChangeSpec := { name := "fnSpreadStrideIsLeastCoprimeFrom37", fn := fun _ => fun
  | [d] => { results := [.lit (.bool true)], args := [d] }
  | _ => none }
def fnSpreadStrideIsLeastCoprimeFrom37Row : OpenClaim := { program := "qxb6603030a", sum := "0bd1400022568b65acfe2b8ef9d69588fcf0d7ec0052da2615b7546ed9f65476", func := "example.com/mustr/mustr/zzlaws_trace_b1.FnSpreadStrideIsLeastCoprimeFrom37", spec := "fnSpreadStrideIsLeastCoprimeFrom37", apart := false }
def FnSpreadStrideIsLeastCoprimeFrom37Said : Prop := fnSpreadStrideIsLeastCoprimeFrom37Row.holds Try.pinned (OpenSpec.ofChange fnSpreadStrideIsLeastCoprimeFrom37Spec)

/-- ITS FALSE NEIGHBOUR: 'it returns false'. Refute it at one input. -/
def fnSpreadStrideIsLeastCoprimeFrom37Wrong : ChangeSpec := { name := "fnSpreadStrideIsLeastCoprimeFrom37", fn := fun _ => fun
  | [d] => { results := [.lit (.bool false)], args := [d] }
  | _ => none }
def FnSpreadStrideIsLeastCoprimeFrom37WrongFalsely : Prop := fnSpreadStrideIsLeastCoprimeFrom37Row.holds Try.pinned (OpenSpec.ofChange fnSpreadStrideIsLeastCoprimeFrom37Wrong)

/-- 'zzlaws_trace_b1.FnSpreadStrideStepsVisitEachSlotOnce': WHATEVER THE INPUT: true; the input reads as it did. -/
def fnSpreadStrideStepsVisitEachSlotOnceSpec : ChangeSpec := { name := "fnSpreadStrideStepsVisitEachSlotOnce", fn := fun _ => fun
  | [d] => { results := [.lit (.bool true)], args := [d] }
  | _ => none }
def fnSpreadStrideStepsVisitEachSlotOnceRow : OpenClaim := { program := "qxb6603030a", sum := "0bd1400022568b65acfe2b8ef9d69588fcf0d7ec0052da2615b7546ed9f65476", func := "example.com/mustr/mustr/zzlaws_trace_b1.FnSpreadStrideStepsVisitEachSlotOnce", spec := "fnSpreadStrideStepsVisitEachSlotOnce", apart := false }
def FnSpreadStrideStepsVisitEachSlotOnceSaid : Prop := fnSpreadStrideStepsVisitEachSlotOnceRow.holds Try.pinned (OpenSpec.ofChange fnSpreadStrideStepsVisitEachSlotOnceSpec)

/-- ITS FALSE NEIGHBOUR: 'it returns false'. Refute it at one input. -/
def fnSpreadStrideStepsVisitEachSlotOnceWrong : ChangeSpec := { name := "fnSpreadStrideStepsVisitEachSlotOnce", fn := fun _ => fun
  | [d] => { results := [.lit (.bool false)], args := [d] }
  | _ => none }
def FnSpreadStrideStepsVisitEachSlotOnceWrongFalsely : Prop := fnSpreadStrideStepsVisitEachSlotOnceRow.holds Try.pinned (OpenSpec.ofChange fnSpreadStrideStepsVisitEachSlotOnceWrong)

/-- 'zzlaws_trace_b1.FnExpBoundedByTheDrawsItTakes': WHATEVER THE INPUT: true; the input reads as it did. -/
def fnExpBoundedByTheDrawsItTakesSpec : ChangeSpec := { name := "fnExpBoundedByTheDrawsItTakes", fn := fun _ => fun
  | [d] => { results := [.lit (.bool true)], args := [d] }
  | _ => none }
def fnExpBoundedByTheDrawsItTakesRow : OpenClaim := { program := "qxb6603030a", sum := "0bd1400022568b65acfe2b8ef9d69588fcf0d7ec0052da2615b7546ed9f65476", func := "example.com/mustr/mustr/zzlaws_trace_b1.FnExpBoundedByTheDrawsItTakes", spec := "fnExpBoundedByTheDrawsItTakes", apart := false }
def FnExpBoundedByTheDrawsItTakesSaid : Prop := fnExpBoundedByTheDrawsItTakesRow.holds Try.pinned (OpenSpec.ofChange fnExpBoundedByTheDrawsItTakesSpec)

/-- ITS FALSE NEIGHBOUR: 'it returns false'. Refute it at one input. -/
def fnExpBoundedByTheDrawsItTakesWrong : ChangeSpec := { name := "fnExpBoundedByTheDrawsItTakes", fn := fun _ => fun
  | [d] => { results := [.lit (.bool false)], args := [d] }
  | _ => none }
def FnExpBoundedByTheDrawsItTakesWrongFalsely : Prop := fnExpBoundedByTheDrawsItTakesRow.holds Try.pinned (OpenSpec.ofChange fnExpBoundedByTheDrawsItTakesWrong)

end Rows
end Go.Proofs.Qxb6603030a
