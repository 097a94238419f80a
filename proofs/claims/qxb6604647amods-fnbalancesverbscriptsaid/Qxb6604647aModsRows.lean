/-
  No cell of these rows narrows 'for every input' (looked for: loops, veiled, ifaces, maps, wideKeys, modest, calm, conditions, laid).
  DERIVED. THE GIVEN ROWS OF THIS SEAT. 3 by the template 'for every input the law returns true; each argument reads behind the call as it read before'; 0 by the template 'total and deterministic' (their statements: Qxb6604647aModsTotals.lean).
  GIVEN WITH THE SEED: the statements are not yours to turn. If you find one false, say at which input.
  Laid BY PROGRAM, IN A SANDBOX (cutbox-rows.mjs): the forced cells as the released guide's own fill.sh prints them over the translation 872ceb908d0602bc… (all of the seat's roots in one cut). By AI agents, Wed Nov 11 2026. No macro, syntax, notation, axiom, sorry.
-/
import Derived.Test.Qxb6604647aModsChecked
import GoSem.Claim
import GoSem.ClaimJoined
import GoSem.ClaimMapViews
import Derived.JoinedTies
import Derived.KernelRfl
namespace Go.Proofs.Qxb6604647aMods
/- THE CELL 'sum', in the pinned program and in every row, IS THE sha256 OF THE DUMP (.gsa) THAT Qxb6604647aModsProg.lean LOADS. Nothing in Lean hashes anything: it is a label: what it is worth is what the hold of that sum in a sandbox is worth. -/
noncomputable def Trym.pinned : Pinned := { name := "qxb6604647amods", sum := "872ceb908d0602bc7c048951e68d444ada3a4fbd6bdfb168b0efd35f3becf04f", checked := Trym.checked }
namespace Rows
def none {H : Type} : Left H := { results := [], args := [] }

/-- 'zzlaws_root_b1.FnBalancesVerbScript': WHATEVER THE INPUT: true; the input reads as it did. -/
def fnBalancesVerbScriptSpec : ChangeSpec := { name := "fnBalancesVerbScript", fn := fun _ => fun
  | [d1, d2, d3, d4, d5, d6, d7, d8, d9] => { results := [.lit (.bool true)], args := [d1, d2, d3, d4, d5, d6, d7, d8, d9] }
  | _ => none }
def fnBalancesVerbScriptRow : OpenClaim := { program := "qxb6604647amods", sum := "872ceb908d0602bc7c048951e68d444ada3a4fbd6bdfb168b0efd35f3becf04f", func := "example.com/tuoguan/tuoguan/zzlaws_root_b1.FnBalancesVerbScript", spec := "fnBalancesVerbScript", make := .lifted ["publicsums"], apart := false }
def FnBalancesVerbScriptSaid : Prop := fnBalancesVerbScriptRow.holds Trym.pinned (OpenSpec.ofChange fnBalancesVerbScriptSpec)

/-- ITS FALSE NEIGHBOUR: 'it returns false'. Refute it at one input. -/
def fnBalancesVerbScriptWrong : ChangeSpec := { name := "fnBalancesVerbScript", fn := fun _ => fun
  | [d1, d2, d3, d4, d5, d6, d7, d8, d9] => { results := [.lit (.bool false)], args := [d1, d2, d3, d4, d5, d6, d7, d8, d9] }
  | _ => none }
def FnBalancesVerbScriptWrongFalsely : Prop := fnBalancesVerbScriptRow.holds Trym.pinned (OpenSpec.ofChange fnBalancesVerbScriptWrong)

/-- 'zzlaws_root_b1.FnWorseThanExactlyOneOfThree': WHATEVER THE INPUT: true; the input reads as it did. -/
def fnWorseThanExactlyOneOfThreeSpec : ChangeSpec := { name := "fnWorseThanExactlyOneOfThree", fn := fun _ => fun
  | [d1, d2, d3, d4] => { results := [.lit (.bool true)], args := [d1, d2, d3, d4] }
  | _ => none }
def fnWorseThanExactlyOneOfThreeRow : OpenClaim := { program := "qxb6604647amods", sum := "872ceb908d0602bc7c048951e68d444ada3a4fbd6bdfb168b0efd35f3becf04f", func := "example.com/tuoguan/tuoguan/zzlaws_root_b1.FnWorseThanExactlyOneOfThree", spec := "fnWorseThanExactlyOneOfThree", make := .lifted ["publicsums"], apart := false }
def FnWorseThanExactlyOneOfThreeSaid : Prop := fnWorseThanExactlyOneOfThreeRow.holds Trym.pinned (OpenSpec.ofChange fnWorseThanExactlyOneOfThreeSpec)

/-- ITS FALSE NEIGHBOUR: 'it returns false'. Refute it at one input. -/
def fnWorseThanExactlyOneOfThreeWrong : ChangeSpec := { name := "fnWorseThanExactlyOneOfThree", fn := fun _ => fun
  | [d1, d2, d3, d4] => { results := [.lit (.bool false)], args := [d1, d2, d3, d4] }
  | _ => none }
def FnWorseThanExactlyOneOfThreeWrongFalsely : Prop := fnWorseThanExactlyOneOfThreeRow.holds Trym.pinned (OpenSpec.ofChange fnWorseThanExactlyOneOfThreeWrong)

/-- 'zzlaws_root_b1.FnWorseThanStrictOrderOfThree': WHATEVER THE INPUT: true; the input reads as it did. -/
def fnWorseThanStrictOrderOfThreeSpec : ChangeSpec := { name := "fnWorseThanStrictOrderOfThree", fn := fun _ => fun
  | [d1, d2, d3, d4, d5, d6] => { results := [.lit (.bool true)], args := [d1, d2, d3, d4, d5, d6] }
  | _ => none }
def fnWorseThanStrictOrderOfThreeRow : OpenClaim := { program := "qxb6604647amods", sum := "872ceb908d0602bc7c048951e68d444ada3a4fbd6bdfb168b0efd35f3becf04f", func := "example.com/tuoguan/tuoguan/zzlaws_root_b1.FnWorseThanStrictOrderOfThree", spec := "fnWorseThanStrictOrderOfThree", make := .lifted ["publicsums"], apart := false }
def FnWorseThanStrictOrderOfThreeSaid : Prop := fnWorseThanStrictOrderOfThreeRow.holds Trym.pinned (OpenSpec.ofChange fnWorseThanStrictOrderOfThreeSpec)

/-- ITS FALSE NEIGHBOUR: 'it returns false'. Refute it at one input. -/
def fnWorseThanStrictOrderOfThreeWrong : ChangeSpec := { name := "fnWorseThanStrictOrderOfThree", fn := fun _ => fun
  | [d1, d2, d3, d4, d5, d6] => { results := [.lit (.bool false)], args := [d1, d2, d3, d4, d5, d6] }
  | _ => none }
def FnWorseThanStrictOrderOfThreeWrongFalsely : Prop := fnWorseThanStrictOrderOfThreeRow.holds Trym.pinned (OpenSpec.ofChange fnWorseThanStrictOrderOfThreeWrong)

end Rows
end Go.Proofs.Qxb6604647aMods
