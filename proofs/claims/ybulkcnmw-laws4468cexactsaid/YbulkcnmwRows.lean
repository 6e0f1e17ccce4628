/-
  No cell of these rows narrows 'for every input' (looked for: loops, veiled, ifaces, maps, wideKeys, modest, calm, conditions, laid).
  DERIVED. THE GIVEN ROWS OF THIS SEAT. 2 by the template 'for every input the law returns true; each argument reads behind the call as it read before'; 0 by the template 'total and deterministic' (their statements: YbulkcnmwTotals.lean).
  GIVEN WITH THE SEED: the statements are not yours to turn. If you find one false, say at which input.
  Laid BY PROGRAM, IN A SANDBOX (cutbox-rows.mjs): the forced cells as the released guide's own fill.sh prints them over the translation 849a7ad3024f8e12… (all of the seat's roots in one cut). By AI agents, Wed Nov 11 2026. No macro, syntax, notation, axiom, sorry.
-/
import Derived.Test.YbulkcnmwChecked
import GoSem.Claim
import GoSem.ClaimJoined
import GoSem.ClaimMapViews
import Derived.JoinedTies
import Derived.KernelRfl
namespace Go.Proofs.Ybulkcnmw
/- THE CELL 'sum', in the pinned program and in every row, IS THE sha256 OF THE DUMP (.gsa) THAT YbulkcnmwProg.lean LOADS. Nothing in Lean hashes anything: it is a label: what it is worth is what the hold of that sum in a sandbox is worth. -/
noncomputable def Yba.pinned : Pinned := { name := "ybulkcnmw", sum := "849a7ad3024f8e124e6a73eaf161a57de798295782d49e70fbb7fecd0b46cd14", checked := Yba.checked }
namespace Rows
def none {H : Type} : Left H := { results := [], args := [] }

/-- 'warmpool.LawS4468CExact': WHATEVER THE INPUT: true; the input reads as it did. -/
def lawS4468CExactSpec : ChangeSpec := { name := "lawS4468CExact", fn := fun _ => fun
  | [d1, d2] => { results := [.lit (.bool true)], args := [d1, d2] }
  | _ => none }
def lawS4468CExactRow : OpenClaim := { program := "ybulkcnmw", sum := "849a7ad3024f8e124e6a73eaf161a57de798295782d49e70fbb7fecd0b46cd14", func := "example.com/warmpool/warmpool.LawS4468CExact", spec := "lawS4468CExact", apart := false }
def LawS4468CExactSaid : Prop := lawS4468CExactRow.holds Yba.pinned (OpenSpec.ofChange lawS4468CExactSpec)

/-- ITS FALSE NEIGHBOUR: 'it returns false'. Refute it at one input. -/
def lawS4468CExactWrong : ChangeSpec := { name := "lawS4468CExact", fn := fun _ => fun
  | [d1, d2] => { results := [.lit (.bool false)], args := [d1, d2] }
  | _ => none }
def LawS4468CExactWrongFalsely : Prop := lawS4468CExactRow.holds Yba.pinned (OpenSpec.ofChange lawS4468CExactWrong)

/-- 'warmpool.LawS4468CSetMin': WHATEVER THE INPUT: true; the input reads as it did. -/
def lawS4468CSetMinSpec : ChangeSpec := { name := "lawS4468CSetMin", fn := fun _ => fun
  | [d1, d2] => { results := [.lit (.bool true)], args := [d1, d2] }
  | _ => none }
def lawS4468CSetMinRow : OpenClaim := { program := "ybulkcnmw", sum := "849a7ad3024f8e124e6a73eaf161a57de798295782d49e70fbb7fecd0b46cd14", func := "example.com/warmpool/warmpool.LawS4468CSetMin", spec := "lawS4468CSetMin", apart := false }
def LawS4468CSetMinSaid : Prop := lawS4468CSetMinRow.holds Yba.pinned (OpenSpec.ofChange lawS4468CSetMinSpec)

/-- ITS FALSE NEIGHBOUR: 'it returns false'. Refute it at one input. -/
def lawS4468CSetMinWrong : ChangeSpec := { name := "lawS4468CSetMin", fn := fun _ => fun
  | [d1, d2] => { results := [.lit (.bool false)], args := [d1, d2] }
  | _ => none }
def LawS4468CSetMinWrongFalsely : Prop := lawS4468CSetMinRow.holds Yba.pinned (OpenSpec.ofChange lawS4468CSetMinWrong)

end Rows
end Go.Proofs.Ybulkcnmw
