/-
  No cell of these rows narrows 'for every input' (looked for: loops, veiled, ifaces, maps, wideKeys, modest, calm, conditions, laid).
  DERIVED. THE GIVEN ROWS OF THIS SEAT. 5 by the template 'for every input the law returns true; each argument reads behind the call as it read before'; 0 by the template 'total and deterministic' (their statements: Qxb6601531aTotals.lean).
  GIVEN WITH THE SEED: the statements are not yours to turn. If you find one false, say at which input.
  Laid BY PROGRAM, IN A SANDBOX (cutbox-rows.mjs): the forced cells as the released guide's own fill.sh prints them over the translation 5bdb89f1ffae6692… (all of the seat's roots in one cut). By AI agents, Wed Nov 11 2026. No macro, syntax, notation, axiom, sorry.
-/
import Derived.Test.Qxb6601531aChecked
import GoSem.Claim
import GoSem.ClaimJoined
import GoSem.ClaimMapViews
import Derived.JoinedTies
import Derived.KernelRfl
namespace Go.Proofs.Qxb6601531a
/- THE CELL 'sum', in the pinned program and in every row, IS THE sha256 OF THE DUMP (.gsa) THAT Qxb6601531aProg.lean LOADS. Nothing in Lean hashes anything: it is a label: what it is worth is what the hold of that sum in a sandbox is worth. -/
noncomputable def Try.pinned : Pinned := { name := "qxb6601531a", sum := "5bdb89f1ffae6692aa1c7bc707ec967c2261e894cda115865f544e1a95117400", checked := Try.checked }
namespace Rows
def none {H : Type} : Left H := { results := [], args := [] }

/-- 'zzlaws_root_b1.FnNewListsFreshAndZeroed': WHATEVER THE INPUT: true; the input reads as it did. -/
def fnNewListsFreshAndZeroedSpec : ChangeSpec := { name := "fnNewListsFreshAndZeroed", fn := fun _ => fun
  | [d] => { results := [.lit (.bool true)], args := [d] }
  | _ => none }
def fnNewListsFreshAndZeroedRow : OpenClaim := { program := "qxb6601531a", sum := "5bdb89f1ffae6692aa1c7bc707ec967c2261e894cda115865f544e1a95117400", func := "example.com/causaline/causaline/zzlaws_root_b1.FnNewListsFreshAndZeroed", spec := "fnNewListsFreshAndZeroed", apart := false }
def FnNewListsFreshAndZeroedSaid : Prop := fnNewListsFreshAndZeroedRow.holds Try.pinned (OpenSpec.ofChange fnNewListsFreshAndZeroedSpec)

/-- ITS FALSE NEIGHBOUR: 'it returns false'. Refute it at one input. -/
def fnNewListsFreshAndZeroedWrong : ChangeSpec := { name := "fnNewListsFreshAndZeroed", fn := fun _ => fun
  | [d] => { results := [.lit (.bool false)], args := [d] }
  | _ => none }
def FnNewListsFreshAndZeroedWrongFalsely : Prop := fnNewListsFreshAndZeroedRow.holds Try.pinned (OpenSpec.ofChange fnNewListsFreshAndZeroedWrong)

/-- 'zzlaws_root_b1.FnMergeSmallIsMaxUnion': WHATEVER THE INPUT: true; the input reads as it did. -/
def fnMergeSmallIsMaxUnionSpec : ChangeSpec := { name := "fnMergeSmallIsMaxUnion", fn := fun _ => fun
  | [d1, d2, d3, d4] => { results := [.lit (.bool true)], args := [d1, d2, d3, d4] }
  | _ => none }
def fnMergeSmallIsMaxUnionRow : OpenClaim := { program := "qxb6601531a", sum := "5bdb89f1ffae6692aa1c7bc707ec967c2261e894cda115865f544e1a95117400", func := "example.com/causaline/causaline/zzlaws_root_b1.FnMergeSmallIsMaxUnion", spec := "fnMergeSmallIsMaxUnion", inPlace := ["internal/bytealg.abigen_runtime_cmpstring"], apart := false }
def FnMergeSmallIsMaxUnionSaid : Prop := fnMergeSmallIsMaxUnionRow.holds Try.pinned (OpenSpec.ofChange fnMergeSmallIsMaxUnionSpec)

/-- ITS FALSE NEIGHBOUR: 'it returns false'. Refute it at one input. -/
def fnMergeSmallIsMaxUnionWrong : ChangeSpec := { name := "fnMergeSmallIsMaxUnion", fn := fun _ => fun
  | [d1, d2, d3, d4] => { results := [.lit (.bool false)], args := [d1, d2, d3, d4] }
  | _ => none }
def FnMergeSmallIsMaxUnionWrongFalsely : Prop := fnMergeSmallIsMaxUnionRow.holds Try.pinned (OpenSpec.ofChange fnMergeSmallIsMaxUnionWrong)

/-- 'zzlaws_root_b1.FnMergeSmallSharesOnlyAContainingList': WHATEVER THE INPUT: true; the input reads as it did. -/
def fnMergeSmallSharesOnlyAContainingListSpec : ChangeSpec := { name := "fnMergeSmallSharesOnlyAContainingList", fn := fun _ => fun
  | [d1, d2, d3, d4] => { results := [.lit (.bool true)], args := [d1, d2, d3, d4] }
  | _ => none }
def fnMergeSmallSharesOnlyAContainingListRow : OpenClaim := { program := "qxb6601531a", sum := "5bdb89f1ffae6692aa1c7bc707ec967c2261e894cda115865f544e1a95117400", func := "example.com/causaline/causaline/zzlaws_root_b1.FnMergeSmallSharesOnlyAContainingList", spec := "fnMergeSmallSharesOnlyAContainingList", inPlace := ["internal/bytealg.abigen_runtime_cmpstring"], apart := false }
def FnMergeSmallSharesOnlyAContainingListSaid : Prop := fnMergeSmallSharesOnlyAContainingListRow.holds Try.pinned (OpenSpec.ofChange fnMergeSmallSharesOnlyAContainingListSpec)

/-- ITS FALSE NEIGHBOUR: 'it returns false'. Refute it at one input. -/
def fnMergeSmallSharesOnlyAContainingListWrong : ChangeSpec := { name := "fnMergeSmallSharesOnlyAContainingList", fn := fun _ => fun
  | [d1, d2, d3, d4] => { results := [.lit (.bool false)], args := [d1, d2, d3, d4] }
  | _ => none }
def FnMergeSmallSharesOnlyAContainingListWrongFalsely : Prop := fnMergeSmallSharesOnlyAContainingListRow.holds Try.pinned (OpenSpec.ofChange fnMergeSmallSharesOnlyAContainingListWrong)

/-- 'zzlaws_root_b1.FnMergeIsMaxUnion': WHATEVER THE INPUT: true; the input reads as it did. -/
def fnMergeIsMaxUnionSpec : ChangeSpec := { name := "fnMergeIsMaxUnion", fn := fun _ => fun
  | [d1, d2, d3, d4, d5] => { results := [.lit (.bool true)], args := [d1, d2, d3, d4, d5] }
  | _ => none }
def fnMergeIsMaxUnionRow : OpenClaim := { program := "qxb6601531a", sum := "5bdb89f1ffae6692aa1c7bc707ec967c2261e894cda115865f544e1a95117400", func := "example.com/causaline/causaline/zzlaws_root_b1.FnMergeIsMaxUnion", spec := "fnMergeIsMaxUnion", apart := false }
def FnMergeIsMaxUnionSaid : Prop := fnMergeIsMaxUnionRow.holds Try.pinned (OpenSpec.ofChange fnMergeIsMaxUnionSpec)

/-- ITS FALSE NEIGHBOUR: 'it returns false'. Refute it at one input. -/
def fnMergeIsMaxUnionWrong : ChangeSpec := { name := "fnMergeIsMaxUnion", fn := fun _ => fun
  | [d1, d2, d3, d4, d5] => { results := [.lit (.bool false)], args := [d1, d2, d3, d4, d5] }
  | _ => none }
def FnMergeIsMaxUnionWrongFalsely : Prop := fnMergeIsMaxUnionRow.holds Try.pinned (OpenSpec.ofChange fnMergeIsMaxUnionWrong)

/-- 'zzlaws_root_b1.FnMergeAgreesWithMergeSmall': WHATEVER THE INPUT: true; the input reads as it did. -/
def fnMergeAgreesWithMergeSmallSpec : ChangeSpec := { name := "fnMergeAgreesWithMergeSmall", fn := fun _ => fun
  | [d1, d2, d3, d4] => { results := [.lit (.bool true)], args := [d1, d2, d3, d4] }
  | _ => none }
def fnMergeAgreesWithMergeSmallRow : OpenClaim := { program := "qxb6601531a", sum := "5bdb89f1ffae6692aa1c7bc707ec967c2261e894cda115865f544e1a95117400", func := "example.com/causaline/causaline/zzlaws_root_b1.FnMergeAgreesWithMergeSmall", spec := "fnMergeAgreesWithMergeSmall", inPlace := ["internal/bytealg.abigen_runtime_cmpstring"], apart := false }
def FnMergeAgreesWithMergeSmallSaid : Prop := fnMergeAgreesWithMergeSmallRow.holds Try.pinned (OpenSpec.ofChange fnMergeAgreesWithMergeSmallSpec)

/-- ITS FALSE NEIGHBOUR: 'it returns false'. Refute it at one input. -/
def fnMergeAgreesWithMergeSmallWrong : ChangeSpec := { name := "fnMergeAgreesWithMergeSmall", fn := fun _ => fun
  | [d1, d2, d3, d4] => { results := [.lit (.bool false)], args := [d1, d2, d3, d4] }
  | _ => none }
def FnMergeAgreesWithMergeSmallWrongFalsely : Prop := fnMergeAgreesWithMergeSmallRow.holds Try.pinned (OpenSpec.ofChange fnMergeAgreesWithMergeSmallWrong)

end Rows
end Go.Proofs.Qxb6601531a
