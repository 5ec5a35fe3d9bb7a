/-
  No cell of these rows narrows 'for every input' (looked for: loops, veiled, ifaces, maps, wideKeys, modest, calm, conditions, laid).
  DERIVED. THE GIVEN ROWS OF THIS SEAT. 3 by the template 'for every input the law returns true; each argument reads behind the call as it read before'; 0 by the template 'total and deterministic' (their statements: Qxb6603764aTotals.lean).
  GIVEN WITH THE SEED: the statements are not yours to turn. If you find one false, say at which input.
  Laid BY PROGRAM, IN A SANDBOX (cutbox-rows.mjs): the forced cells as the released guide's own fill.sh prints them over the translation 7761eca806b08af1… (all of the seat's roots in one cut). By AI agents, Wed Nov 11 2026. No macro, syntax, notation, axiom, sorry.
-/
import Derived.Test.Qxb6603764aChecked
import GoSem.Claim
import GoSem.ClaimJoined
import GoSem.ClaimMapViews
import Derived.JoinedTies
import Derived.KernelRfl
namespace Go.Proofs.Qxb6603764a
/- THE CELL 'sum', in the pinned program and in every row, IS THE sha256 OF THE DUMP (.gsa) THAT Qxb6603764aProg.lean LOADS. Nothing in Lean hashes anything: it is a label: what it is worth is what the hold of that sum in a sandbox is worth. -/
noncomputable def Try.pinned : Pinned := { name := "qxb6603764a", sum := "7761eca806b08af1464a283b8389579f0fac94458a5f52960a7f4e1fa59d2ab8", checked := Try.checked }
namespace Rows
def none {H : Type} : Left H := { results := [], args := [] }

/-- 'zzlaws_root_b1.FnAheadAgreesWithForwardScan': WHATEVER THE INPUT: true; the input reads as it did. -/
def fnAheadAgreesWithForwardScanSpec : ChangeSpec := { name := "fnAheadAgreesWithForwardScan", fn := fun _ => fun
  | [d1, d2] => { results := [.lit (.bool true)], args := [d1, d2] }
  | _ => none }
def fnAheadAgreesWithForwardScanRow : OpenClaim := { program := "qxb6603764a", sum := "7761eca806b08af1464a283b8389579f0fac94458a5f52960a7f4e1fa59d2ab8", func := "example.com/fairlatch/fairlatch/zzlaws_root_b1.FnAheadAgreesWithForwardScan", spec := "fnAheadAgreesWithForwardScan", apart := false }
def FnAheadAgreesWithForwardScanSaid : Prop := fnAheadAgreesWithForwardScanRow.holds Try.pinned (OpenSpec.ofChange fnAheadAgreesWithForwardScanSpec)

/-- ITS FALSE NEIGHBOUR: 'it returns false'. Refute it at one input. -/
def fnAheadAgreesWithForwardScanWrong : ChangeSpec := { name := "fnAheadAgreesWithForwardScan", fn := fun _ => fun
  | [d1, d2] => { results := [.lit (.bool false)], args := [d1, d2] }
  | _ => none }
def FnAheadAgreesWithForwardScanWrongFalsely : Prop := fnAheadAgreesWithForwardScanRow.holds Try.pinned (OpenSpec.ofChange fnAheadAgreesWithForwardScanWrong)

/-- 'zzlaws_root_b1.FnAheadHoldersExclude': WHATEVER THE INPUT: true; the input reads as it did. -/
def fnAheadHoldersExcludeSpec : ChangeSpec := { name := "fnAheadHoldersExclude", fn := fun _ => fun
  | [d] => { results := [.lit (.bool true)], args := [d] }
  | _ => none }
def fnAheadHoldersExcludeRow : OpenClaim := { program := "qxb6603764a", sum := "7761eca806b08af1464a283b8389579f0fac94458a5f52960a7f4e1fa59d2ab8", func := "example.com/fairlatch/fairlatch/zzlaws_root_b1.FnAheadHoldersExclude", spec := "fnAheadHoldersExclude", apart := false }
def FnAheadHoldersExcludeSaid : Prop := fnAheadHoldersExcludeRow.holds Try.pinned (OpenSpec.ofChange fnAheadHoldersExcludeSpec)

/-- ITS FALSE NEIGHBOUR: 'it returns false'. Refute it at one input. -/
def fnAheadHoldersExcludeWrong : ChangeSpec := { name := "fnAheadHoldersExclude", fn := fun _ => fun
  | [d] => { results := [.lit (.bool false)], args := [d] }
  | _ => none }
def FnAheadHoldersExcludeWrongFalsely : Prop := fnAheadHoldersExcludeRow.holds Try.pinned (OpenSpec.ofChange fnAheadHoldersExcludeWrong)

/-- 'zzlaws_root_b1.FnQueueKindsPartition': WHATEVER THE INPUT: true; the input reads as it did. -/
def fnQueueKindsPartitionSpec : ChangeSpec := { name := "fnQueueKindsPartition", fn := fun _ => fun
  | [d1, d2] => { results := [.lit (.bool true)], args := [d1, d2] }
  | _ => none }
def fnQueueKindsPartitionRow : OpenClaim := { program := "qxb6603764a", sum := "7761eca806b08af1464a283b8389579f0fac94458a5f52960a7f4e1fa59d2ab8", func := "example.com/fairlatch/fairlatch/zzlaws_root_b1.FnQueueKindsPartition", spec := "fnQueueKindsPartition", apart := false }
def FnQueueKindsPartitionSaid : Prop := fnQueueKindsPartitionRow.holds Try.pinned (OpenSpec.ofChange fnQueueKindsPartitionSpec)

/-- ITS FALSE NEIGHBOUR: 'it returns false'. Refute it at one input. -/
def fnQueueKindsPartitionWrong : ChangeSpec := { name := "fnQueueKindsPartition", fn := fun _ => fun
  | [d1, d2] => { results := [.lit (.bool false)], args := [d1, d2] }
  | _ => none }
def FnQueueKindsPartitionWrongFalsely : Prop := fnQueueKindsPartitionRow.holds Try.pinned (OpenSpec.ofChange fnQueueKindsPartitionWrong)

end Rows
end Go.Proofs.Qxb6603764a
