/-
  No cell of these rows narrows 'for every input' (looked for: loops, veiled, ifaces, maps, wideKeys, modest, calm, conditions, laid).
  DERIVED. THE GIVEN ROWS OF THIS SEAT. 1 by the template 'for every input the law returns true; each argument reads behind the call as it read before'; 0 by the template 'total and deterministic' (their statements: YbulkbibmTotals.lean).
  GIVEN WITH THE SEED: the statements are not yours to turn. If you find one false, say at which input.
  Laid BY PROGRAM, IN A SANDBOX (cutbox-rows.mjs): the forced cells as the released guide's own fill.sh prints them over the translation 3b2b5917154c6e45… (all of the seat's roots in one cut). By AI agents, Wed Nov 11 2026. No macro, syntax, notation, axiom, sorry.
-/
import Derived.Test.YbulkbibmChecked
import GoSem.Claim
import GoSem.ClaimJoined
import GoSem.ClaimMapViews
import Derived.JoinedTies
import Derived.KernelRfl
namespace Go.Proofs.Ybulkbibm
/- THE CELL 'sum', in the pinned program and in every row, IS THE sha256 OF THE DUMP (.gsa) THAT YbulkbibmProg.lean LOADS. Nothing in Lean hashes anything: it is a label: what it is worth is what the hold of that sum in a sandbox is worth. -/
noncomputable def Yba.pinned : Pinned := { name := "ybulkbibm", sum := "3b2b5917154c6e4594d0fc1f687d3375d4fcdb7bf39945d90f7b8cfc9dfd4ac7", checked := Yba.checked }
namespace Rows
def none {H : Type} : Left H := { results := [], args := [] }

/-- 'register.LawS2950CBefore': WHATEVER THE INPUT: true; the input reads as it did. -/
def lawS2950CBeforeSpec : ChangeSpec := { name := "lawS2950CBefore", fn := fun _ => fun
  | [d1, d2, d3, d4, d5] => { results := [.lit (.bool true)], args := [d1, d2, d3, d4, d5] }
  | _ => none }
def lawS2950CBeforeRow : OpenClaim := { program := "ybulkbibm", sum := "3b2b5917154c6e4594d0fc1f687d3375d4fcdb7bf39945d90f7b8cfc9dfd4ac7", func := "example.com/holdwatch/holdwatch/internal/register.LawS2950CBefore", spec := "lawS2950CBefore", unfollowed := true, recurses := true, apart := false }
def LawS2950CBeforeSaid : Prop := lawS2950CBeforeRow.holds Yba.pinned (OpenSpec.ofChange lawS2950CBeforeSpec)

/-- ITS FALSE NEIGHBOUR: 'it returns false'. Refute it at one input. -/
def lawS2950CBeforeWrong : ChangeSpec := { name := "lawS2950CBefore", fn := fun _ => fun
  | [d1, d2, d3, d4, d5] => { results := [.lit (.bool false)], args := [d1, d2, d3, d4, d5] }
  | _ => none }
def LawS2950CBeforeWrongFalsely : Prop := lawS2950CBeforeRow.holds Yba.pinned (OpenSpec.ofChange lawS2950CBeforeWrong)

end Rows
end Go.Proofs.Ybulkbibm
