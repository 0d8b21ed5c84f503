/-
  No cell of these rows narrows 'for every input' (looked for: loops, veiled, ifaces, maps, wideKeys, modest, calm, conditions, laid).
  DERIVED. THE GIVEN ROWS OF THIS SEAT. 9 by the template 'for every input the law returns true; each argument reads behind the call as it read before'; 0 by the template 'total and deterministic' (their statements: Qxb6602049aTotals.lean).
  GIVEN WITH THE SEED: the statements are not yours to turn. If you find one false, say at which input.
  Laid BY PROGRAM, IN A SANDBOX (cutbox-rows.mjs): the forced cells as the released guide's own fill.sh prints them over the translation 91d6a9276a5dee61… (all of the seat's roots in one cut). By AI agents, Wed Nov 11 2026. No macro, syntax, notation, axiom, sorry.
-/
import Derived.Test.Qxb6602049aChecked
import GoSem.Claim
import GoSem.ClaimJoined
import GoSem.ClaimMapViews
import Derived.JoinedTies
import Derived.KernelRfl
namespace Go.Proofs.Qxb6602049a
/- THE CELL 'sum', in the pinned program and in every row, IS THE sha256 OF THE DUMP (.gsa) THAT Qxb6602049aProg.lean LOADS. Nothing in Lean hashes anything: it is a label: what it is worth is what the hold of that sum in a sandbox is worth. -/
noncomputable def Try.pinned : Pinned := { name := "qxb6602049a", sum := "91d6a9276a5dee61a3947c584ff568894828f1be3ef31919cdb18b9e09bc6336", checked := Try.checked }
namespace Rows
def none {H : Type} : Left H := { results := [], args := [] }

/-- 'zzlaws_snapyaml_b1.FnNameFormatExact': WHATEVER THE INPUT: true; the input reads as it did. -/
def fnNameFormatExactSpec : ChangeSpec := { name := "fnNameFormatExact", fn := fun _ => fun
  | [d] => { results := [.lit (.bool true)], args := [d] }
  | _ => none }
def fnNameFormatExactRow : OpenClaim := { program := "qxb6602049a", sum := "91d6a9276a5dee61a3947c584ff568894828f1be3ef31919cdb18b9e09bc6336", func := "example.com/metalode/metalode/zzlaws_snapyaml_b1.FnNameFormatExact", spec := "fnNameFormatExact", apart := false }
def FnNameFormatExactSaid : Prop := fnNameFormatExactRow.holds Try.pinned (OpenSpec.ofChange fnNameFormatExactSpec)

/-- ITS FALSE NEIGHBOUR: 'it returns false'. Refute it at one input. -/
def fnNameFormatExactWrong : ChangeSpec := { name := "fnNameFormatExact", fn := fun _ => fun
  | [d] => { results := [.lit (.bool false)], args := [d] }
  | _ => none }
def FnNameFormatExactWrongFalsely : Prop := fnNameFormatExactRow.holds Try.pinned (OpenSpec.ofChange fnNameFormatExactWrong)

/-- 'zzlaws_snapyaml_b1.FnNameFormatSegments': WHATEVER THE INPUT: true; the input reads as it did. -/
def fnNameFormatSegmentsSpec : ChangeSpec := { name := "fnNameFormatSegments", fn := fun _ => fun
  | [d] => { results := [.lit (.bool true)], args := [d] }
  | _ => none }
def fnNameFormatSegmentsRow : OpenClaim := { program := "qxb6602049a", sum := "91d6a9276a5dee61a3947c584ff568894828f1be3ef31919cdb18b9e09bc6336", func := "example.com/metalode/metalode/zzlaws_snapyaml_b1.FnNameFormatSegments", spec := "fnNameFormatSegments", apart := false }
def FnNameFormatSegmentsSaid : Prop := fnNameFormatSegmentsRow.holds Try.pinned (OpenSpec.ofChange fnNameFormatSegmentsSpec)

/-- ITS FALSE NEIGHBOUR: 'it returns false'. Refute it at one input. -/
def fnNameFormatSegmentsWrong : ChangeSpec := { name := "fnNameFormatSegments", fn := fun _ => fun
  | [d] => { results := [.lit (.bool false)], args := [d] }
  | _ => none }
def FnNameFormatSegmentsWrongFalsely : Prop := fnNameFormatSegmentsRow.holds Try.pinned (OpenSpec.ofChange fnNameFormatSegmentsWrong)

/-- 'zzlaws_snapyaml_b1.FnNameFormatIsLowerAppName': WHATEVER THE INPUT: true; the input reads as it did. -/
def fnNameFormatIsLowerAppNameSpec : ChangeSpec := { name := "fnNameFormatIsLowerAppName", fn := fun _ => fun
  | [d] => { results := [.lit (.bool true)], args := [d] }
  | _ => none }
def fnNameFormatIsLowerAppNameRow : OpenClaim := { program := "qxb6602049a", sum := "91d6a9276a5dee61a3947c584ff568894828f1be3ef31919cdb18b9e09bc6336", func := "example.com/metalode/metalode/zzlaws_snapyaml_b1.FnNameFormatIsLowerAppName", spec := "fnNameFormatIsLowerAppName", apart := false }
def FnNameFormatIsLowerAppNameSaid : Prop := fnNameFormatIsLowerAppNameRow.holds Try.pinned (OpenSpec.ofChange fnNameFormatIsLowerAppNameSpec)

/-- ITS FALSE NEIGHBOUR: 'it returns false'. Refute it at one input. -/
def fnNameFormatIsLowerAppNameWrong : ChangeSpec := { name := "fnNameFormatIsLowerAppName", fn := fun _ => fun
  | [d] => { results := [.lit (.bool false)], args := [d] }
  | _ => none }
def FnNameFormatIsLowerAppNameWrongFalsely : Prop := fnNameFormatIsLowerAppNameRow.holds Try.pinned (OpenSpec.ofChange fnNameFormatIsLowerAppNameWrong)

/-- 'zzlaws_snapyaml_b1.FnAppNameFormatExact': WHATEVER THE INPUT: true; the input reads as it did. -/
def fnAppNameFormatExactSpec : ChangeSpec := { name := "fnAppNameFormatExact", fn := fun _ => fun
  | [d] => { results := [.lit (.bool true)], args := [d] }
  | _ => none }
def fnAppNameFormatExactRow : OpenClaim := { program := "qxb6602049a", sum := "91d6a9276a5dee61a3947c584ff568894828f1be3ef31919cdb18b9e09bc6336", func := "example.com/metalode/metalode/zzlaws_snapyaml_b1.FnAppNameFormatExact", spec := "fnAppNameFormatExact", apart := false }
def FnAppNameFormatExactSaid : Prop := fnAppNameFormatExactRow.holds Try.pinned (OpenSpec.ofChange fnAppNameFormatExactSpec)

/-- ITS FALSE NEIGHBOUR: 'it returns false'. Refute it at one input. -/
def fnAppNameFormatExactWrong : ChangeSpec := { name := "fnAppNameFormatExact", fn := fun _ => fun
  | [d] => { results := [.lit (.bool false)], args := [d] }
  | _ => none }
def FnAppNameFormatExactWrongFalsely : Prop := fnAppNameFormatExactRow.holds Try.pinned (OpenSpec.ofChange fnAppNameFormatExactWrong)

/-- 'zzlaws_snapyaml_b1.FnAppNameFormatSegments': WHATEVER THE INPUT: true; the input reads as it did. -/
def fnAppNameFormatSegmentsSpec : ChangeSpec := { name := "fnAppNameFormatSegments", fn := fun _ => fun
  | [d] => { results := [.lit (.bool true)], args := [d] }
  | _ => none }
def fnAppNameFormatSegmentsRow : OpenClaim := { program := "qxb6602049a", sum := "91d6a9276a5dee61a3947c584ff568894828f1be3ef31919cdb18b9e09bc6336", func := "example.com/metalode/metalode/zzlaws_snapyaml_b1.FnAppNameFormatSegments", spec := "fnAppNameFormatSegments", apart := false }
def FnAppNameFormatSegmentsSaid : Prop := fnAppNameFormatSegmentsRow.holds Try.pinned (OpenSpec.ofChange fnAppNameFormatSegmentsSpec)

/-- ITS FALSE NEIGHBOUR: 'it returns false'. Refute it at one input. -/
def fnAppNameFormatSegmentsWrong : ChangeSpec := { name := "fnAppNameFormatSegments", fn := fun _ => fun
  | [d] => { results := [.lit (.bool false)], args := [d] }
  | _ => none }
def FnAppNameFormatSegmentsWrongFalsely : Prop := fnAppNameFormatSegmentsRow.holds Try.pinned (OpenSpec.ofChange fnAppNameFormatSegmentsWrong)

/-- 'zzlaws_snapyaml_b1.FnAppNameFormatJoin': WHATEVER THE INPUT: true; the input reads as it did. -/
def fnAppNameFormatJoinSpec : ChangeSpec := { name := "fnAppNameFormatJoin", fn := fun _ => fun
  | [d1, d2] => { results := [.lit (.bool true)], args := [d1, d2] }
  | _ => none }
def fnAppNameFormatJoinRow : OpenClaim := { program := "qxb6602049a", sum := "91d6a9276a5dee61a3947c584ff568894828f1be3ef31919cdb18b9e09bc6336", func := "example.com/metalode/metalode/zzlaws_snapyaml_b1.FnAppNameFormatJoin", spec := "fnAppNameFormatJoin", apart := false }
def FnAppNameFormatJoinSaid : Prop := fnAppNameFormatJoinRow.holds Try.pinned (OpenSpec.ofChange fnAppNameFormatJoinSpec)

/-- ITS FALSE NEIGHBOUR: 'it returns false'. Refute it at one input. -/
def fnAppNameFormatJoinWrong : ChangeSpec := { name := "fnAppNameFormatJoin", fn := fun _ => fun
  | [d1, d2] => { results := [.lit (.bool false)], args := [d1, d2] }
  | _ => none }
def FnAppNameFormatJoinWrongFalsely : Prop := fnAppNameFormatJoinRow.holds Try.pinned (OpenSpec.ofChange fnAppNameFormatJoinWrong)

/-- 'zzlaws_snapyaml_b1.FnVersionFormatExact': WHATEVER THE INPUT: true; the input reads as it did. -/
def fnVersionFormatExactSpec : ChangeSpec := { name := "fnVersionFormatExact", fn := fun _ => fun
  | [d] => { results := [.lit (.bool true)], args := [d] }
  | _ => none }
def fnVersionFormatExactRow : OpenClaim := { program := "qxb6602049a", sum := "91d6a9276a5dee61a3947c584ff568894828f1be3ef31919cdb18b9e09bc6336", func := "example.com/metalode/metalode/zzlaws_snapyaml_b1.FnVersionFormatExact", spec := "fnVersionFormatExact", apart := false }
def FnVersionFormatExactSaid : Prop := fnVersionFormatExactRow.holds Try.pinned (OpenSpec.ofChange fnVersionFormatExactSpec)

/-- ITS FALSE NEIGHBOUR: 'it returns false'. Refute it at one input. -/
def fnVersionFormatExactWrong : ChangeSpec := { name := "fnVersionFormatExact", fn := fun _ => fun
  | [d] => { results := [.lit (.bool false)], args := [d] }
  | _ => none }
def FnVersionFormatExactWrongFalsely : Prop := fnVersionFormatExactRow.holds Try.pinned (OpenSpec.ofChange fnVersionFormatExactWrong)

/-- 'zzlaws_snapyaml_b1.FnVersionFormatJoin': WHATEVER THE INPUT: true; the input reads as it did. -/
def fnVersionFormatJoinSpec : ChangeSpec := { name := "fnVersionFormatJoin", fn := fun _ => fun
  | [d1, d2] => { results := [.lit (.bool true)], args := [d1, d2] }
  | _ => none }
def fnVersionFormatJoinRow : OpenClaim := { program := "qxb6602049a", sum := "91d6a9276a5dee61a3947c584ff568894828f1be3ef31919cdb18b9e09bc6336", func := "example.com/metalode/metalode/zzlaws_snapyaml_b1.FnVersionFormatJoin", spec := "fnVersionFormatJoin", apart := false }
def FnVersionFormatJoinSaid : Prop := fnVersionFormatJoinRow.holds Try.pinned (OpenSpec.ofChange fnVersionFormatJoinSpec)

/-- ITS FALSE NEIGHBOUR: 'it returns false'. Refute it at one input. -/
def fnVersionFormatJoinWrong : ChangeSpec := { name := "fnVersionFormatJoin", fn := fun _ => fun
  | [d1, d2] => { results := [.lit (.bool false)], args := [d1, d2] }
  | _ => none }
def FnVersionFormatJoinWrongFalsely : Prop := fnVersionFormatJoinRow.holds Try.pinned (OpenSpec.ofChange fnVersionFormatJoinWrong)

/-- 'zzlaws_snapyaml_b1.FnValidityChain': WHATEVER THE INPUT: true; the input reads as it did. -/
def fnValidityChainSpec : ChangeSpec := { name := "fnValidityChain", fn := fun _ => fun
  | [d] => { results := [.lit (.bool true)], args := [d] }
  | _ => none }
def fnValidityChainRow : OpenClaim := { program := "qxb6602049a", sum := "91d6a9276a5dee61a3947c584ff568894828f1be3ef31919cdb18b9e09bc6336", func := "example.com/metalode/metalode/zzlaws_snapyaml_b1.FnValidityChain", spec := "fnValidityChain", apart := false }
def FnValidityChainSaid : Prop := fnValidityChainRow.holds Try.pinned (OpenSpec.ofChange fnValidityChainSpec)

/-- ITS FALSE NEIGHBOUR: 'it returns false'. Refute it at one input. -/
def fnValidityChainWrong : ChangeSpec := { name := "fnValidityChain", fn := fun _ => fun
  | [d] => { results := [.lit (.bool false)], args := [d] }
  | _ => none }
def FnValidityChainWrongFalsely : Prop := fnValidityChainRow.holds Try.pinned (OpenSpec.ofChange fnValidityChainWrong)

end Rows
end Go.Proofs.Qxb6602049a
