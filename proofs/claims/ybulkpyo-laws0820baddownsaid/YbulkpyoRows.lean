/-
  No cell of these rows narrows 'for every input' (looked for: loops, veiled, ifaces, maps, wideKeys, modest, calm, conditions, laid).
  DERIVED. THE GIVEN ROWS OF THIS SEAT. 2 by the template 'for every input the law returns true; each argument reads behind the call as it read before'; 0 by the template 'total and deterministic' (their statements: YbulkpyoTotals.lean).
  GIVEN WITH THE SEED: the statements are not yours to turn. If you find one false, say at which input.
  Laid BY PROGRAM, IN A SANDBOX (cutbox-rows.mjs): the forced cells as the released guide's own fill.sh prints them over the translation 4bb2c9fcc57f6903… (all of the seat's roots in one cut). By AI agents, Wed Nov 11 2026. No macro, syntax, notation, axiom, sorry.
-/
import Derived.Test.YbulkpyoChecked
import GoSem.Claim
import GoSem.ClaimJoined
import GoSem.ClaimMapViews
import Derived.JoinedTies
import Derived.KernelRfl
namespace Go.Proofs.Ybulkpyo
/- THE CELL 'sum', in the pinned program and in every row, IS THE sha256 OF THE DUMP (.gsa) THAT YbulkpyoProg.lean LOADS. Nothing in Lean hashes anything: it is a label: what it is worth is what the hold of that sum in a sandbox is worth. -/
noncomputable def Yba.pinned : Pinned := { name := "ybulkpyo", sum := "4bb2c9fcc57f690361fc9337b2194fce6bdcc37351bfc2ce480db60d5cef9241", checked := Yba.checked }
namespace Rows
def none {H : Type} : Left H := { results := [], args := [] }

/-- 'value.LawS0820BAddOwn': WHATEVER THE INPUT: true; the input reads as it did. -/
def lawS0820BAddOwnSpec : ChangeSpec := { name := "lawS0820BAddOwn", fn := fun _ => fun
  | [d] => { results := [.lit (.bool true)], args := [d] }
  | _ => none }
def lawS0820BAddOwnRow : OpenClaim := { program := "ybulkpyo", sum := "4bb2c9fcc57f690361fc9337b2194fce6bdcc37351bfc2ce480db60d5cef9241", func := "example.com/orrery/orrery/value.LawS0820BAddOwn", spec := "lawS0820BAddOwn", apart := false }
def LawS0820BAddOwnSaid : Prop := lawS0820BAddOwnRow.holds Yba.pinned (OpenSpec.ofChange lawS0820BAddOwnSpec)

/-- ITS FALSE NEIGHBOUR: 'it returns false'. Refute it at one input. -/
def lawS0820BAddOwnWrong : ChangeSpec := { name := "lawS0820BAddOwn", fn := fun _ => fun
  | [d] => { results := [.lit (.bool false)], args := [d] }
  | _ => none }
def LawS0820BAddOwnWrongFalsely : Prop := lawS0820BAddOwnRow.holds Yba.pinned (OpenSpec.ofChange lawS0820BAddOwnWrong)

/-- 'functions.LawS0820CState': WHATEVER THE INPUT: true; the input reads as it did. -/
def lawS0820CStateSpec : ChangeSpec := { name := "lawS0820CState", fn := fun _ => fun
  | [d1, d2] => { results := [.lit (.bool true)], args := [d1, d2] }
  | _ => none }
def lawS0820CStateRow : OpenClaim := { program := "ybulkpyo", sum := "4bb2c9fcc57f690361fc9337b2194fce6bdcc37351bfc2ce480db60d5cef9241", func := "example.com/orrery/orrery/functions.LawS0820CState", spec := "lawS0820CState", apart := false }
def LawS0820CStateSaid : Prop := lawS0820CStateRow.holds Yba.pinned (OpenSpec.ofChange lawS0820CStateSpec)

/-- ITS FALSE NEIGHBOUR: 'it returns false'. Refute it at one input. -/
def lawS0820CStateWrong : ChangeSpec := { name := "lawS0820CState", fn := fun _ => fun
  | [d1, d2] => { results := [.lit (.bool false)], args := [d1, d2] }
  | _ => none }
def LawS0820CStateWrongFalsely : Prop := lawS0820CStateRow.holds Yba.pinned (OpenSpec.ofChange lawS0820CStateWrong)

end Rows
end Go.Proofs.Ybulkpyo
