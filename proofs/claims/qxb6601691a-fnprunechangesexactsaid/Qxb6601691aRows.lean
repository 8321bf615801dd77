/-
  No cell of these rows narrows 'for every input' (looked for: loops, veiled, ifaces, maps, wideKeys, modest, calm, conditions, laid).
  DERIVED. THE GIVEN ROWS OF THIS SEAT. 6 by the template 'for every input the law returns true; each argument reads behind the call as it read before'; 0 by the template 'total and deterministic' (their statements: Qxb6601691aTotals.lean).
  GIVEN WITH THE SEED: the statements are not yours to turn. If you find one false, say at which input.
  Laid BY PROGRAM, IN A SANDBOX (cutbox-rows.mjs): the forced cells as the released guide's own fill.sh prints them over the translation acf5972524e1a7f2… (all of the seat's roots in one cut). By AI agents, Wed Nov 11 2026. No macro, syntax, notation, axiom, sorry.
-/
import Derived.Test.Qxb6601691aChecked
import GoSem.Claim
import GoSem.ClaimJoined
import GoSem.ClaimMapViews
import Derived.JoinedTies
import Derived.KernelRfl
namespace Go.Proofs.Qxb6601691a
/- THE CELL 'sum', in the pinned program and in every row, IS THE sha256 OF THE DUMP (.gsa) THAT Qxb6601691aProg.lean LOADS. Nothing in Lean hashes anything: it is a label: what it is worth is what the hold of that sum in a sandbox is worth. -/
noncomputable def Try.pinned : Pinned := { name := "qxb6601691a", sum := "acf5972524e1a7f2d209fbc424ba46bc69be2a741bebd9f4ee83040b7cabce5c", checked := Try.checked }
namespace Rows
def none {H : Type} : Left H := { results := [], args := [] }

/-- 'zzlaws_root_b1.FnPruneChangesExact': WHATEVER THE INPUT: true; the input reads as it did. -/
def fnPruneChangesExactSpec : ChangeSpec := { name := "fnPruneChangesExact", fn := fun _ => fun
  | [d1, d2] => { results := [.lit (.bool true)], args := [d1, d2] }
  | _ => none }
def fnPruneChangesExactRow : OpenClaim := { program := "qxb6601691a", sum := "acf5972524e1a7f2d209fbc424ba46bc69be2a741bebd9f4ee83040b7cabce5c", func := "example.com/regather/regather/zzlaws_root_b1.FnPruneChangesExact", spec := "fnPruneChangesExact", apart := false }
def FnPruneChangesExactSaid : Prop := fnPruneChangesExactRow.holds Try.pinned (OpenSpec.ofChange fnPruneChangesExactSpec)

/-- ITS FALSE NEIGHBOUR: 'it returns false'. Refute it at one input. -/
def fnPruneChangesExactWrong : ChangeSpec := { name := "fnPruneChangesExact", fn := fun _ => fun
  | [d1, d2] => { results := [.lit (.bool false)], args := [d1, d2] }
  | _ => none }
def FnPruneChangesExactWrongFalsely : Prop := fnPruneChangesExactRow.holds Try.pinned (OpenSpec.ofChange fnPruneChangesExactWrong)

/-- 'zzlaws_root_b1.FnPruneChangesIdempotent': WHATEVER THE INPUT: true; the input reads as it did. -/
def fnPruneChangesIdempotentSpec : ChangeSpec := { name := "fnPruneChangesIdempotent", fn := fun _ => fun
  | [d1, d2] => { results := [.lit (.bool true)], args := [d1, d2] }
  | _ => none }
def fnPruneChangesIdempotentRow : OpenClaim := { program := "qxb6601691a", sum := "acf5972524e1a7f2d209fbc424ba46bc69be2a741bebd9f4ee83040b7cabce5c", func := "example.com/regather/regather/zzlaws_root_b1.FnPruneChangesIdempotent", spec := "fnPruneChangesIdempotent", apart := false }
def FnPruneChangesIdempotentSaid : Prop := fnPruneChangesIdempotentRow.holds Try.pinned (OpenSpec.ofChange fnPruneChangesIdempotentSpec)

/-- ITS FALSE NEIGHBOUR: 'it returns false'. Refute it at one input. -/
def fnPruneChangesIdempotentWrong : ChangeSpec := { name := "fnPruneChangesIdempotent", fn := fun _ => fun
  | [d1, d2] => { results := [.lit (.bool false)], args := [d1, d2] }
  | _ => none }
def FnPruneChangesIdempotentWrongFalsely : Prop := fnPruneChangesIdempotentRow.holds Try.pinned (OpenSpec.ofChange fnPruneChangesIdempotentWrong)

/-- 'zzlaws_root_b1.FnSharesOfEndsClimb': WHATEVER THE INPUT: true; the input reads as it did. -/
def fnSharesOfEndsClimbSpec : ChangeSpec := { name := "fnSharesOfEndsClimb", fn := fun _ => fun
  | [d1, d2, d3] => { results := [.lit (.bool true)], args := [d1, d2, d3] }
  | _ => none }
def fnSharesOfEndsClimbRow : OpenClaim := { program := "qxb6601691a", sum := "acf5972524e1a7f2d209fbc424ba46bc69be2a741bebd9f4ee83040b7cabce5c", func := "example.com/regather/regather/zzlaws_root_b1.FnSharesOfEndsClimb", spec := "fnSharesOfEndsClimb", apart := false }
def FnSharesOfEndsClimbSaid : Prop := fnSharesOfEndsClimbRow.holds Try.pinned (OpenSpec.ofChange fnSharesOfEndsClimbSpec)

/-- ITS FALSE NEIGHBOUR: 'it returns false'. Refute it at one input. -/
def fnSharesOfEndsClimbWrong : ChangeSpec := { name := "fnSharesOfEndsClimb", fn := fun _ => fun
  | [d1, d2, d3] => { results := [.lit (.bool false)], args := [d1, d2, d3] }
  | _ => none }
def FnSharesOfEndsClimbWrongFalsely : Prop := fnSharesOfEndsClimbRow.holds Try.pinned (OpenSpec.ofChange fnSharesOfEndsClimbWrong)

/-- 'zzlaws_root_b1.FnSharesOfShift': WHATEVER THE INPUT: true; the input reads as it did. -/
def fnSharesOfShiftSpec : ChangeSpec := { name := "fnSharesOfShift", fn := fun _ => fun
  | [d1, d2, d3, d4] => { results := [.lit (.bool true)], args := [d1, d2, d3, d4] }
  | _ => none }
def fnSharesOfShiftRow : OpenClaim := { program := "qxb6601691a", sum := "acf5972524e1a7f2d209fbc424ba46bc69be2a741bebd9f4ee83040b7cabce5c", func := "example.com/regather/regather/zzlaws_root_b1.FnSharesOfShift", spec := "fnSharesOfShift", apart := false }
def FnSharesOfShiftSaid : Prop := fnSharesOfShiftRow.holds Try.pinned (OpenSpec.ofChange fnSharesOfShiftSpec)

/-- ITS FALSE NEIGHBOUR: 'it returns false'. Refute it at one input. -/
def fnSharesOfShiftWrong : ChangeSpec := { name := "fnSharesOfShift", fn := fun _ => fun
  | [d1, d2, d3, d4] => { results := [.lit (.bool false)], args := [d1, d2, d3, d4] }
  | _ => none }
def FnSharesOfShiftWrongFalsely : Prop := fnSharesOfShiftRow.holds Try.pinned (OpenSpec.ofChange fnSharesOfShiftWrong)

/-- 'zzlaws_root_b1.FnLastBlankLineExact': WHATEVER THE INPUT: true; the input reads as it did. -/
def fnLastBlankLineExactSpec : ChangeSpec := { name := "fnLastBlankLineExact", fn := fun _ => fun
  | [d] => { results := [.lit (.bool true)], args := [d] }
  | _ => none }
def fnLastBlankLineExactRow : OpenClaim := { program := "qxb6601691a", sum := "acf5972524e1a7f2d209fbc424ba46bc69be2a741bebd9f4ee83040b7cabce5c", func := "example.com/regather/regather/zzlaws_root_b1.FnLastBlankLineExact", spec := "fnLastBlankLineExact", apart := false }
def FnLastBlankLineExactSaid : Prop := fnLastBlankLineExactRow.holds Try.pinned (OpenSpec.ofChange fnLastBlankLineExactSpec)

/-- ITS FALSE NEIGHBOUR: 'it returns false'. Refute it at one input. -/
def fnLastBlankLineExactWrong : ChangeSpec := { name := "fnLastBlankLineExact", fn := fun _ => fun
  | [d] => { results := [.lit (.bool false)], args := [d] }
  | _ => none }
def FnLastBlankLineExactWrongFalsely : Prop := fnLastBlankLineExactRow.holds Try.pinned (OpenSpec.ofChange fnLastBlankLineExactWrong)

/-- 'zzlaws_root_b1.FnLastBlankLineTailWithoutNewline': WHATEVER THE INPUT: true; the input reads as it did. -/
def fnLastBlankLineTailWithoutNewlineSpec : ChangeSpec := { name := "fnLastBlankLineTailWithoutNewline", fn := fun _ => fun
  | [d1, d2] => { results := [.lit (.bool true)], args := [d1, d2] }
  | _ => none }
def fnLastBlankLineTailWithoutNewlineRow : OpenClaim := { program := "qxb6601691a", sum := "acf5972524e1a7f2d209fbc424ba46bc69be2a741bebd9f4ee83040b7cabce5c", func := "example.com/regather/regather/zzlaws_root_b1.FnLastBlankLineTailWithoutNewline", spec := "fnLastBlankLineTailWithoutNewline", apart := false }
def FnLastBlankLineTailWithoutNewlineSaid : Prop := fnLastBlankLineTailWithoutNewlineRow.holds Try.pinned (OpenSpec.ofChange fnLastBlankLineTailWithoutNewlineSpec)

/-- ITS FALSE NEIGHBOUR: 'it returns false'. Refute it at one input. -/
def fnLastBlankLineTailWithoutNewlineWrong : ChangeSpec := { name := "fnLastBlankLineTailWithoutNewline", fn := fun _ => fun
  | [d1, d2] => { results := [.lit (.bool false)], args := [d1, d2] }
  | _ => none }
def FnLastBlankLineTailWithoutNewlineWrongFalsely : Prop := fnLastBlankLineTailWithoutNewlineRow.holds Try.pinned (OpenSpec.ofChange fnLastBlankLineTailWithoutNewlineWrong)

end Rows
end Go.Proofs.Qxb6601691a
