/-
  No cell of these rows narrows 'for every input' (looked for: loops, veiled, ifaces, maps, wideKeys, modest, calm, conditions, laid).
  DERIVED. THE GIVEN ROWS OF THIS SEAT. 5 by the template 'for every input the law returns true; each argument reads behind the call as it read before'; 0 by the template 'total and deterministic' (their statements: Qxb6602801aTotals.lean).
  GIVEN WITH THE SEED: the statements are not yours to turn. If you find one false, say at which input.
  Laid BY PROGRAM, IN A SANDBOX (cutbox-rows.mjs): the forced cells as the released guide's own fill.sh prints them over the translation 09bbf24f5e98c2b6… (all of the seat's roots in one cut). By AI agents, Wed Nov 11 2026. No macro, syntax, notation, axiom, sorry.
-/
import Derived.Test.Qxb6602801aChecked
import GoSem.Claim
import GoSem.ClaimJoined
import GoSem.ClaimMapViews
import Derived.JoinedTies
import Derived.KernelRfl
namespace Go.Proofs.Qxb6602801a
/- THE CELL 'sum', in the pinned program and in every row, IS THE sha256 OF THE DUMP (.gsa) THAT Qxb6602801aProg.lean LOADS. Nothing in Lean hashes anything: it is a label: what it is worth is what the hold of that sum in a sandbox is worth. -/
noncomputable def Try.pinned : Pinned := { name := "qxb6602801a", sum := "09bbf24f5e98c2b67845901a268b2ae1365dcae606aae5155967f68b5f8541b2", checked := Try.checked }
namespace Rows
def none {H : Type} : Left H := { results := [], args := [] }

/-- 'zzlaws_internal_types_b1.FnParseExponentMatchesGrammar': WHATEVER THE INPUT: true; the input reads as it did. -/
def fnParseExponentMatchesGrammarSpec : ChangeSpec := { name := "fnParseExponentMatchesGrammar", fn := fun _ => fun
  | [d] => { results := [.lit (.bool true)], args := [d] }
  | _ => none }
def fnParseExponentMatchesGrammarRow : OpenClaim := { program := "qxb6602801a", sum := "09bbf24f5e98c2b67845901a268b2ae1365dcae606aae5155967f68b5f8541b2", func := "example.com/archipel/archipel/zzlaws_internal_types_b1.FnParseExponentMatchesGrammar", spec := "fnParseExponentMatchesGrammar", apart := false }
def FnParseExponentMatchesGrammarSaid : Prop := fnParseExponentMatchesGrammarRow.holds Try.pinned (OpenSpec.ofChange fnParseExponentMatchesGrammarSpec)

/-- ITS FALSE NEIGHBOUR: 'it returns false'. Refute it at one input. -/
def fnParseExponentMatchesGrammarWrong : ChangeSpec := { name := "fnParseExponentMatchesGrammar", fn := fun _ => fun
  | [d] => { results := [.lit (.bool false)], args := [d] }
  | _ => none }
def FnParseExponentMatchesGrammarWrongFalsely : Prop := fnParseExponentMatchesGrammarRow.holds Try.pinned (OpenSpec.ofChange fnParseExponentMatchesGrammarWrong)

/-- 'zzlaws_internal_types_b1.FnParseExponentReadsBackDecimal': WHATEVER THE INPUT: true; the input reads as it did. -/
def fnParseExponentReadsBackDecimalSpec : ChangeSpec := { name := "fnParseExponentReadsBackDecimal", fn := fun _ => fun
  | [d1, d2, d3] => { results := [.lit (.bool true)], args := [d1, d2, d3] }
  | _ => none }
def fnParseExponentReadsBackDecimalRow : OpenClaim := { program := "qxb6602801a", sum := "09bbf24f5e98c2b67845901a268b2ae1365dcae606aae5155967f68b5f8541b2", func := "example.com/archipel/archipel/zzlaws_internal_types_b1.FnParseExponentReadsBackDecimal", spec := "fnParseExponentReadsBackDecimal", apart := false }
def FnParseExponentReadsBackDecimalSaid : Prop := fnParseExponentReadsBackDecimalRow.holds Try.pinned (OpenSpec.ofChange fnParseExponentReadsBackDecimalSpec)

/-- ITS FALSE NEIGHBOUR: 'it returns false'. Refute it at one input. -/
def fnParseExponentReadsBackDecimalWrong : ChangeSpec := { name := "fnParseExponentReadsBackDecimal", fn := fun _ => fun
  | [d1, d2, d3] => { results := [.lit (.bool false)], args := [d1, d2, d3] }
  | _ => none }
def FnParseExponentReadsBackDecimalWrongFalsely : Prop := fnParseExponentReadsBackDecimalRow.holds Try.pinned (OpenSpec.ofChange fnParseExponentReadsBackDecimalWrong)

/-- 'zzlaws_internal_types_b1.FnParseExponentSignNegates': WHATEVER THE INPUT: true; the input reads as it did. -/
def fnParseExponentSignNegatesSpec : ChangeSpec := { name := "fnParseExponentSignNegates", fn := fun _ => fun
  | [d] => { results := [.lit (.bool true)], args := [d] }
  | _ => none }
def fnParseExponentSignNegatesRow : OpenClaim := { program := "qxb6602801a", sum := "09bbf24f5e98c2b67845901a268b2ae1365dcae606aae5155967f68b5f8541b2", func := "example.com/archipel/archipel/zzlaws_internal_types_b1.FnParseExponentSignNegates", spec := "fnParseExponentSignNegates", apart := false }
def FnParseExponentSignNegatesSaid : Prop := fnParseExponentSignNegatesRow.holds Try.pinned (OpenSpec.ofChange fnParseExponentSignNegatesSpec)

/-- ITS FALSE NEIGHBOUR: 'it returns false'. Refute it at one input. -/
def fnParseExponentSignNegatesWrong : ChangeSpec := { name := "fnParseExponentSignNegates", fn := fun _ => fun
  | [d] => { results := [.lit (.bool false)], args := [d] }
  | _ => none }
def FnParseExponentSignNegatesWrongFalsely : Prop := fnParseExponentSignNegatesRow.holds Try.pinned (OpenSpec.ofChange fnParseExponentSignNegatesWrong)

/-- 'zzlaws_internal_types_b1.FnInfinitePartReservedOnlyForNoUnit': WHATEVER THE INPUT: true; the input reads as it did. -/
def fnInfinitePartReservedOnlyForNoUnitSpec : ChangeSpec := { name := "fnInfinitePartReservedOnlyForNoUnit", fn := fun _ => fun
  | [d1, d2] => { results := [.lit (.bool true)], args := [d1, d2] }
  | _ => none }
def fnInfinitePartReservedOnlyForNoUnitRow : OpenClaim := { program := "qxb6602801a", sum := "09bbf24f5e98c2b67845901a268b2ae1365dcae606aae5155967f68b5f8541b2", func := "example.com/archipel/archipel/zzlaws_internal_types_b1.FnInfinitePartReservedOnlyForNoUnit", spec := "fnInfinitePartReservedOnlyForNoUnit", apart := false }
def FnInfinitePartReservedOnlyForNoUnitSaid : Prop := fnInfinitePartReservedOnlyForNoUnitRow.holds Try.pinned (OpenSpec.ofChange fnInfinitePartReservedOnlyForNoUnitSpec)

/-- ITS FALSE NEIGHBOUR: 'it returns false'. Refute it at one input. -/
def fnInfinitePartReservedOnlyForNoUnitWrong : ChangeSpec := { name := "fnInfinitePartReservedOnlyForNoUnit", fn := fun _ => fun
  | [d1, d2] => { results := [.lit (.bool false)], args := [d1, d2] }
  | _ => none }
def FnInfinitePartReservedOnlyForNoUnitWrongFalsely : Prop := fnInfinitePartReservedOnlyForNoUnitRow.holds Try.pinned (OpenSpec.ofChange fnInfinitePartReservedOnlyForNoUnitWrong)

/-- 'zzlaws_internal_types_b1.FnInfinitePartTimestampRefinesDate': WHATEVER THE INPUT: true; the input reads as it did. -/
def fnInfinitePartTimestampRefinesDateSpec : ChangeSpec := { name := "fnInfinitePartTimestampRefinesDate", fn := fun _ => fun
  | [d1, d2] => { results := [.lit (.bool true)], args := [d1, d2] }
  | _ => none }
def fnInfinitePartTimestampRefinesDateRow : OpenClaim := { program := "qxb6602801a", sum := "09bbf24f5e98c2b67845901a268b2ae1365dcae606aae5155967f68b5f8541b2", func := "example.com/archipel/archipel/zzlaws_internal_types_b1.FnInfinitePartTimestampRefinesDate", spec := "fnInfinitePartTimestampRefinesDate", apart := false }
def FnInfinitePartTimestampRefinesDateSaid : Prop := fnInfinitePartTimestampRefinesDateRow.holds Try.pinned (OpenSpec.ofChange fnInfinitePartTimestampRefinesDateSpec)

/-- ITS FALSE NEIGHBOUR: 'it returns false'. Refute it at one input. -/
def fnInfinitePartTimestampRefinesDateWrong : ChangeSpec := { name := "fnInfinitePartTimestampRefinesDate", fn := fun _ => fun
  | [d1, d2] => { results := [.lit (.bool false)], args := [d1, d2] }
  | _ => none }
def FnInfinitePartTimestampRefinesDateWrongFalsely : Prop := fnInfinitePartTimestampRefinesDateRow.holds Try.pinned (OpenSpec.ofChange fnInfinitePartTimestampRefinesDateWrong)

end Rows
end Go.Proofs.Qxb6602801a
