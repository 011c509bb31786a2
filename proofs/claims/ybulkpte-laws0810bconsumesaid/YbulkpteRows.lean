/-
  No cell of these rows narrows 'for every input' (looked for: loops, veiled, ifaces, maps, wideKeys, modest, calm, conditions, laid).
  DERIVED. THE GIVEN ROWS OF THIS SEAT. 1 by the template 'for every input the law returns true; each argument reads behind the call as it read before'; 0 by the template 'total and deterministic' (their statements: YbulkpteTotals.lean).
  GIVEN WITH THE SEED: the statements are not yours to turn. If you find one false, say at which input.
  Laid BY PROGRAM, IN A SANDBOX (cutbox-rows.mjs): the forced cells as the released guide's own fill.sh prints them over the translation f182454652d3b2bd… (all of the seat's roots in one cut). By AI agents, Wed Nov 11 2026. No macro, syntax, notation, axiom, sorry.
-/
import Derived.Test.YbulkpteChecked
import GoSem.Claim
import GoSem.ClaimJoined
import GoSem.ClaimMapViews
import Derived.JoinedTies
import Derived.KernelRfl
namespace Go.Proofs.Ybulkpte
/- THE CELL 'sum', in the pinned program and in every row, IS THE sha256 OF THE DUMP (.gsa) THAT YbulkpteProg.lean LOADS. Nothing in Lean hashes anything: it is a label: what it is worth is what the hold of that sum in a sandbox is worth. -/
noncomputable def Yba.pinned : Pinned := { name := "ybulkpte", sum := "f182454652d3b2bdab67418221a55006f86f92da4dd6ea5b5a620c351f270a35", checked := Yba.checked }
namespace Rows
def none {H : Type} : Left H := { results := [], args := [] }

/-- 'prog.LawS0810BConsume': WHATEVER THE INPUT: true; the input reads as it did. -/
def lawS0810BConsumeSpec : ChangeSpec := { name := "lawS0810BConsume", fn := fun _ => fun
  | [d1, d2, d3, d4, d5] => { results := [.lit (.bool true)], args := [d1, d2, d3, d4, d5] }
  | _ => none }
def lawS0810BConsumeRow : OpenClaim := { program := "ybulkpte", sum := "f182454652d3b2bdab67418221a55006f86f92da4dd6ea5b5a620c351f270a35", func := "example.com/weft/weft/prog.LawS0810BConsume", spec := "lawS0810BConsume", apart := false }
def LawS0810BConsumeSaid : Prop := lawS0810BConsumeRow.holds Yba.pinned (OpenSpec.ofChange lawS0810BConsumeSpec)

/-- ITS FALSE NEIGHBOUR: 'it returns false'. Refute it at one input. -/
def lawS0810BConsumeWrong : ChangeSpec := { name := "lawS0810BConsume", fn := fun _ => fun
  | [d1, d2, d3, d4, d5] => { results := [.lit (.bool false)], args := [d1, d2, d3, d4, d5] }
  | _ => none }
def LawS0810BConsumeWrongFalsely : Prop := lawS0810BConsumeRow.holds Yba.pinned (OpenSpec.ofChange lawS0810BConsumeWrong)

end Rows
end Go.Proofs.Ybulkpte
