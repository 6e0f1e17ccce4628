/-
  No cell of these rows narrows 'for every input' (looked for: loops, veiled, ifaces, maps, wideKeys, modest, calm, conditions, laid).
  DERIVED. THE GIVEN ROWS OF THIS SEAT. 1 by the template 'for every input the law returns true; each argument reads behind the call as it read before'; 0 by the template 'total and deterministic' (their statements: YbulkcnmiTotals.lean).
  GIVEN WITH THE SEED: the statements are not yours to turn. If you find one false, say at which input.
  Laid BY PROGRAM, IN A SANDBOX (cutbox-rows.mjs): the forced cells as the released guide's own fill.sh prints them over the translation 971b9284c0729477… (all of the seat's roots in one cut). By AI agents, Wed Nov 11 2026. No macro, syntax, notation, axiom, sorry.
-/
import Derived.Test.YbulkcnmiChecked
import GoSem.Claim
import GoSem.ClaimJoined
import GoSem.ClaimMapViews
import Derived.JoinedTies
import Derived.KernelRfl
namespace Go.Proofs.Ybulkcnmi
/- THE CELL 'sum', in the pinned program and in every row, IS THE sha256 OF THE DUMP (.gsa) THAT YbulkcnmiProg.lean LOADS. Nothing in Lean hashes anything: it is a label: what it is worth is what the hold of that sum in a sandbox is worth. -/
noncomputable def Yba.pinned : Pinned := { name := "ybulkcnmi", sum := "971b9284c0729477b55124e7565549b6d8df2b5378bebb329ba651c2dd075733", checked := Yba.checked }
namespace Rows
def none {H : Type} : Left H := { results := [], args := [] }

/-- 'sched.LawS4467CAdd': WHATEVER THE INPUT: true; the input reads as it did. -/
def lawS4467CAddSpec : ChangeSpec := { name := "lawS4467CAdd", fn := fun _ => fun
  | [d1, d2, d3, d4] => { results := [.lit (.bool true)], args := [d1, d2, d3, d4] }
  | _ => none }
def lawS4467CAddRow : OpenClaim := { program := "ybulkcnmi", sum := "971b9284c0729477b55124e7565549b6d8df2b5378bebb329ba651c2dd075733", func := "example.com/windlass/windlass/sched.LawS4467CAdd", spec := "lawS4467CAdd", apart := false }
def LawS4467CAddSaid : Prop := lawS4467CAddRow.holds Yba.pinned (OpenSpec.ofChange lawS4467CAddSpec)

/-- ITS FALSE NEIGHBOUR: 'it returns false'. Refute it at one input. -/
def lawS4467CAddWrong : ChangeSpec := { name := "lawS4467CAdd", fn := fun _ => fun
  | [d1, d2, d3, d4] => { results := [.lit (.bool false)], args := [d1, d2, d3, d4] }
  | _ => none }
def LawS4467CAddWrongFalsely : Prop := lawS4467CAddRow.holds Yba.pinned (OpenSpec.ofChange lawS4467CAddWrong)

end Rows
end Go.Proofs.Ybulkcnmi
