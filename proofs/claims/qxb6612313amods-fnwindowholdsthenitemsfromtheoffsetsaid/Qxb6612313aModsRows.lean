/-
  No cell of these rows narrows 'for every input' (looked for: loops, veiled, ifaces, maps, wideKeys, modest, calm, conditions, laid).
  DERIVED. THE GIVEN ROWS OF THIS SEAT. 2 by the template 'for every input the law returns true; each argument reads behind the call as it read before'; 0 by the template 'total and deterministic' (their statements: Qxb6612313aModsTotals.lean).
  GIVEN WITH THE SEED: the statements are not yours to turn. If you find one false, say at which input.
  Laid BY PROGRAM, IN A SANDBOX (cutbox-rows.mjs): the forced cells as the released guide's own fill.sh prints them over the translation 9df7f4161d49155b… (all of the seat's roots in one cut). By AI agents, Wed Nov 11 2026. No macro, syntax, notation, axiom, sorry.
-/
import Derived.Test.Qxb6612313aModsChecked
import GoSem.Claim
import GoSem.ClaimJoined
import GoSem.ClaimMapViews
import Derived.JoinedTies
import Derived.KernelRfl
namespace Go.Proofs.Qxb6612313aMods
/- THE CELL 'sum', in the pinned program and in every row, IS THE sha256 OF THE DUMP (.gsa) THAT Qxb6612313aModsProg.lean LOADS. Nothing in Lean hashes anything: it is a label: what it is worth is what the hold of that sum in a sandbox is worth. -/
noncomputable def Trym.pinned : Pinned := { name := "qxb6612313amods", sum := "9df7f4161d49155b75f75efdb3616da0f3337d6c4e8ca949dee089a55041f1e1", checked := Trym.checked }
namespace Rows
def none {H : Type} : Left H := { results := [], args := [] }

/-- 'zzlaws_internal_server_b1.FnWindowHoldsTheNItemsFromTheOffset': WHATEVER THE INPUT: true; the input reads as it did. -/
def fnWindowHoldsTheNItemsFromTheOffsetSpec : ChangeSpec := { name := "fnWindowHoldsTheNItemsFromTheOffset", fn := fun _ => fun
  | [d1, d2, d3] => { results := [.lit (.bool true)], args := [d1, d2, d3] }
  | _ => none }
def fnWindowHoldsTheNItemsFromTheOffsetRow : OpenClaim := { program := "qxb6612313amods", sum := "9df7f4161d49155b75f75efdb3616da0f3337d6c4e8ca949dee089a55041f1e1", func := "example.com/jobwire/jobwire/zzlaws_internal_server_b1.FnWindowHoldsTheNItemsFromTheOffset", spec := "fnWindowHoldsTheNItemsFromTheOffset", make := .lifted ["publicsums"], apart := false }
def FnWindowHoldsTheNItemsFromTheOffsetSaid : Prop := fnWindowHoldsTheNItemsFromTheOffsetRow.holds Trym.pinned (OpenSpec.ofChange fnWindowHoldsTheNItemsFromTheOffsetSpec)

/-- ITS FALSE NEIGHBOUR: 'it returns false'. Refute it at one input. -/
def fnWindowHoldsTheNItemsFromTheOffsetWrong : ChangeSpec := { name := "fnWindowHoldsTheNItemsFromTheOffset", fn := fun _ => fun
  | [d1, d2, d3] => { results := [.lit (.bool false)], args := [d1, d2, d3] }
  | _ => none }
def FnWindowHoldsTheNItemsFromTheOffsetWrongFalsely : Prop := fnWindowHoldsTheNItemsFromTheOffsetRow.holds Trym.pinned (OpenSpec.ofChange fnWindowHoldsTheNItemsFromTheOffsetWrong)

/-- 'zzlaws_internal_server_b1.FnWindowPagesJoinUp': WHATEVER THE INPUT: true; the input reads as it did. -/
def fnWindowPagesJoinUpSpec : ChangeSpec := { name := "fnWindowPagesJoinUp", fn := fun _ => fun
  | [d1, d2, d3, d4] => { results := [.lit (.bool true)], args := [d1, d2, d3, d4] }
  | _ => none }
def fnWindowPagesJoinUpRow : OpenClaim := { program := "qxb6612313amods", sum := "9df7f4161d49155b75f75efdb3616da0f3337d6c4e8ca949dee089a55041f1e1", func := "example.com/jobwire/jobwire/zzlaws_internal_server_b1.FnWindowPagesJoinUp", spec := "fnWindowPagesJoinUp", make := .lifted ["publicsums"], apart := false }
def FnWindowPagesJoinUpSaid : Prop := fnWindowPagesJoinUpRow.holds Trym.pinned (OpenSpec.ofChange fnWindowPagesJoinUpSpec)

/-- ITS FALSE NEIGHBOUR: 'it returns false'. Refute it at one input. -/
def fnWindowPagesJoinUpWrong : ChangeSpec := { name := "fnWindowPagesJoinUp", fn := fun _ => fun
  | [d1, d2, d3, d4] => { results := [.lit (.bool false)], args := [d1, d2, d3, d4] }
  | _ => none }
def FnWindowPagesJoinUpWrongFalsely : Prop := fnWindowPagesJoinUpRow.holds Trym.pinned (OpenSpec.ofChange fnWindowPagesJoinUpWrong)

end Rows
end Go.Proofs.Qxb6612313aMods
