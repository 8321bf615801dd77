/-
  NARROWER THAN 'FOR EVERY INPUT', by the rows' own cells (each row's printed sentence says how): FnLookupAnswersFirstMatch: loops.
  DERIVED. THE GIVEN ROWS OF THIS SEAT. 2 by the template 'for every input the law returns true; each argument reads behind the call as it read before'; 0 by the template 'total and deterministic' (their statements: Qxb6602150aTotals.lean).
  GIVEN WITH THE SEED: the statements are not yours to turn. If you find one false, say at which input.
  Laid BY PROGRAM, IN A SANDBOX (cutbox-rows.mjs): the forced cells as the released guide's own fill.sh prints them over the translation f2463aab591bd160… (all of the seat's roots in one cut). By AI agents, Wed Nov 11 2026. No macro, syntax, notation, axiom, sorry.
-/
import Derived.Test.Qxb6602150aChecked
import GoSem.Claim
import GoSem.ClaimJoined
import GoSem.ClaimMapViews
import Derived.JoinedTies
import Derived.KernelRfl
namespace Go.Proofs.Qxb6602150a
/- THE CELL 'sum', in the pinned program and in every row, IS THE sha256 OF THE DUMP (.gsa) THAT Qxb6602150aProg.lean LOADS. Nothing in Lean hashes anything: it is a label: what it is worth is what the hold of that sum in a sandbox is worth. -/
noncomputable def Try.pinned : Pinned := { name := "qxb6602150a", sum := "f2463aab591bd1608188b75cb03941cfc29b71e1db1671351bf187651e013834", checked := Try.checked }
namespace Rows
def none {H : Type} : Left H := { results := [], args := [] }

/-- 'zzlaws_internal_modelica_b1.FnLookupAnswersFirstMatch': WHATEVER THE INPUT: true; the input reads as it did. -/
def fnLookupAnswersFirstMatchSpec : ChangeSpec := { name := "fnLookupAnswersFirstMatch", fn := fun _ => fun
  | [d1, d2] => { results := [.lit (.bool true)], args := [d1, d2] }
  | _ => none }
def fnLookupAnswersFirstMatchRow : OpenClaim := { program := "qxb6602150a", sum := "f2463aab591bd1608188b75cb03941cfc29b71e1db1671351bf187651e013834", func := "example.com/resolvent/resolvent/zzlaws_internal_modelica_b1.FnLookupAnswersFirstMatch", spec := "fnLookupAnswersFirstMatch", recurses := true, loops := true, apart := false }
def FnLookupAnswersFirstMatchSaid : Prop := fnLookupAnswersFirstMatchRow.holds Try.pinned (OpenSpec.ofChange fnLookupAnswersFirstMatchSpec)

/-- ITS FALSE NEIGHBOUR: 'it returns false'. Refute it at one input. -/
def fnLookupAnswersFirstMatchWrong : ChangeSpec := { name := "fnLookupAnswersFirstMatch", fn := fun _ => fun
  | [d1, d2] => { results := [.lit (.bool false)], args := [d1, d2] }
  | _ => none }
def FnLookupAnswersFirstMatchWrongFalsely : Prop := fnLookupAnswersFirstMatchRow.holds Try.pinned (OpenSpec.ofChange fnLookupAnswersFirstMatchWrong)

/-- 'zzlaws_internal_modelica_b1.FnUnescapeInjective': WHATEVER THE INPUT: true; the input reads as it did. -/
def fnUnescapeInjectiveSpec : ChangeSpec := { name := "fnUnescapeInjective", fn := fun _ => fun
  | [d1, d2] => { results := [.lit (.bool true)], args := [d1, d2] }
  | _ => none }
def fnUnescapeInjectiveRow : OpenClaim := { program := "qxb6602150a", sum := "f2463aab591bd1608188b75cb03941cfc29b71e1db1671351bf187651e013834", func := "example.com/resolvent/resolvent/zzlaws_internal_modelica_b1.FnUnescapeInjective", spec := "fnUnescapeInjective", apart := false }
def FnUnescapeInjectiveSaid : Prop := fnUnescapeInjectiveRow.holds Try.pinned (OpenSpec.ofChange fnUnescapeInjectiveSpec)

/-- ITS FALSE NEIGHBOUR: 'it returns false'. Refute it at one input. -/
def fnUnescapeInjectiveWrong : ChangeSpec := { name := "fnUnescapeInjective", fn := fun _ => fun
  | [d1, d2] => { results := [.lit (.bool false)], args := [d1, d2] }
  | _ => none }
def FnUnescapeInjectiveWrongFalsely : Prop := fnUnescapeInjectiveRow.holds Try.pinned (OpenSpec.ofChange fnUnescapeInjectiveWrong)

end Rows
end Go.Proofs.Qxb6602150a
