/-
  No cell of these rows narrows 'for every input' (looked for: loops, veiled, ifaces, maps, wideKeys, modest, calm, conditions, laid).
  DERIVED. THE GIVEN ROWS OF THIS SEAT. 2 by the template 'for every input the law returns true; each argument reads behind the call as it read before'; 0 by the template 'total and deterministic' (their statements: YbulkptsTotals.lean).
  GIVEN WITH THE SEED: the statements are not yours to turn. If you find one false, say at which input.
  Laid BY PROGRAM, IN A SANDBOX (cutbox-rows.mjs): the forced cells as the released guide's own fill.sh prints them over the translation efbd18da4f8f21af… (all of the seat's roots in one cut). By AI agents, Wed Nov 11 2026. No macro, syntax, notation, axiom, sorry.
-/
import Derived.Test.YbulkptsChecked
import GoSem.Claim
import GoSem.ClaimJoined
import GoSem.ClaimMapViews
import Derived.JoinedTies
import Derived.KernelRfl
namespace Go.Proofs.Ybulkpts
/- THE CELL 'sum', in the pinned program and in every row, IS THE sha256 OF THE DUMP (.gsa) THAT YbulkptsProg.lean LOADS. Nothing in Lean hashes anything: it is a label: what it is worth is what the hold of that sum in a sandbox is worth. -/
noncomputable def Yba.pinned : Pinned := { name := "ybulkpts", sum := "efbd18da4f8f21af1a03a1e880da21054be700f7c6ec48f2fa45fcccb583b5a5", checked := Yba.checked }
namespace Rows
def none {H : Type} : Left H := { results := [], args := [] }

/-- 'palimpsest.LawS0811AReleaseShared': WHATEVER THE INPUT: true; the input reads as it did. -/
def lawS0811AReleaseSharedSpec : ChangeSpec := { name := "lawS0811AReleaseShared", fn := fun _ => fun
  | [d1, d2] => { results := [.lit (.bool true)], args := [d1, d2] }
  | _ => none }
def lawS0811AReleaseSharedRow : OpenClaim := { program := "ybulkpts", sum := "efbd18da4f8f21af1a03a1e880da21054be700f7c6ec48f2fa45fcccb583b5a5", func := "example.com/palimpsest/palimpsest.LawS0811AReleaseShared", spec := "lawS0811AReleaseShared", unfollowed := true, recurses := true, plainKeys := false, apart := false }
def LawS0811AReleaseSharedSaid : Prop := lawS0811AReleaseSharedRow.holds Yba.pinned (OpenSpec.ofChange lawS0811AReleaseSharedSpec)

/-- ITS FALSE NEIGHBOUR: 'it returns false'. Refute it at one input. -/
def lawS0811AReleaseSharedWrong : ChangeSpec := { name := "lawS0811AReleaseShared", fn := fun _ => fun
  | [d1, d2] => { results := [.lit (.bool false)], args := [d1, d2] }
  | _ => none }
def LawS0811AReleaseSharedWrongFalsely : Prop := lawS0811AReleaseSharedRow.holds Yba.pinned (OpenSpec.ofChange lawS0811AReleaseSharedWrong)

/-- 'palimpsest.LawS0811AIdempotent': WHATEVER THE INPUT: true; the input reads as it did. -/
def lawS0811AIdempotentSpec : ChangeSpec := { name := "lawS0811AIdempotent", fn := fun _ => fun
  | [d1, d2] => { results := [.lit (.bool true)], args := [d1, d2] }
  | _ => none }
def lawS0811AIdempotentRow : OpenClaim := { program := "ybulkpts", sum := "efbd18da4f8f21af1a03a1e880da21054be700f7c6ec48f2fa45fcccb583b5a5", func := "example.com/palimpsest/palimpsest.LawS0811AIdempotent", spec := "lawS0811AIdempotent", unfollowed := true, recurses := true, plainKeys := false, apart := false }
def LawS0811AIdempotentSaid : Prop := lawS0811AIdempotentRow.holds Yba.pinned (OpenSpec.ofChange lawS0811AIdempotentSpec)

/-- ITS FALSE NEIGHBOUR: 'it returns false'. Refute it at one input. -/
def lawS0811AIdempotentWrong : ChangeSpec := { name := "lawS0811AIdempotent", fn := fun _ => fun
  | [d1, d2] => { results := [.lit (.bool false)], args := [d1, d2] }
  | _ => none }
def LawS0811AIdempotentWrongFalsely : Prop := lawS0811AIdempotentRow.holds Yba.pinned (OpenSpec.ofChange lawS0811AIdempotentWrong)

end Rows
end Go.Proofs.Ybulkpts
