/-
  No cell of these rows narrows 'for every input' (looked for: loops, veiled, ifaces, maps, wideKeys, modest, calm, conditions, laid).
  DERIVED. THE GIVEN ROWS OF THIS SEAT. 1 by the template 'for every input the law returns true; each argument reads behind the call as it read before'; 0 by the template 'total and deterministic' (their statements: YbulkbiakTotals.lean).
  GIVEN WITH THE SEED: the statements are not yours to turn. If you find one false, say at which input.
  Laid BY PROGRAM, IN A SANDBOX (cutbox-rows.mjs): the forced cells as the released guide's own fill.sh prints them over the translation 05a34bc4fd697ab2… (all of the seat's roots in one cut). By AI agents, Wed Nov 11 2026. No macro, syntax, notation, axiom, sorry.
-/
import Derived.Test.YbulkbiakChecked
import GoSem.Claim
import GoSem.ClaimJoined
import GoSem.ClaimMapViews
import Derived.JoinedTies
import Derived.KernelRfl
namespace Go.Proofs.Ybulkbiak
/- THE CELL 'sum', in the pinned program and in every row, IS THE sha256 OF THE DUMP (.gsa) THAT YbulkbiakProg.lean LOADS. Nothing in Lean hashes anything: it is a label: what it is worth is what the hold of that sum in a sandbox is worth. -/
noncomputable def Yba.pinned : Pinned := { name := "ybulkbiak", sum := "05a34bc4fd697ab25d31df4ff664208663ed438755f8fbdf1000b38e187391b2", checked := Yba.checked }
namespace Rows
def none {H : Type} : Left H := { results := [], args := [] }

/-- 'serilens.LawS2948CJoin': WHATEVER THE INPUT: true; the input reads as it did. -/
def lawS2948CJoinSpec : ChangeSpec := { name := "lawS2948CJoin", fn := fun _ => fun
  | [d1, d2, d3, d4, d5, d6, d7, d8] => { results := [.lit (.bool true)], args := [d1, d2, d3, d4, d5, d6, d7, d8] }
  | _ => none }
def lawS2948CJoinRow : OpenClaim := { program := "ybulkbiak", sum := "05a34bc4fd697ab25d31df4ff664208663ed438755f8fbdf1000b38e187391b2", func := "example.com/serilens/serilens.LawS2948CJoin", spec := "lawS2948CJoin", apart := false }
def LawS2948CJoinSaid : Prop := lawS2948CJoinRow.holds Yba.pinned (OpenSpec.ofChange lawS2948CJoinSpec)

/-- ITS FALSE NEIGHBOUR: 'it returns false'. Refute it at one input. -/
def lawS2948CJoinWrong : ChangeSpec := { name := "lawS2948CJoin", fn := fun _ => fun
  | [d1, d2, d3, d4, d5, d6, d7, d8] => { results := [.lit (.bool false)], args := [d1, d2, d3, d4, d5, d6, d7, d8] }
  | _ => none }
def LawS2948CJoinWrongFalsely : Prop := lawS2948CJoinRow.holds Yba.pinned (OpenSpec.ofChange lawS2948CJoinWrong)

end Rows
end Go.Proofs.Ybulkbiak
