/-
  No cell of these rows narrows 'for every input' (looked for: loops, veiled, ifaces, maps, wideKeys, modest, calm, conditions, laid).
  DERIVED. THE GIVEN ROWS OF THIS SEAT. 2 by the template 'for every input the law returns true; each argument reads behind the call as it read before'; 0 by the template 'total and deterministic' (their statements: YbulkbicoTotals.lean).
  GIVEN WITH THE SEED: the statements are not yours to turn. If you find one false, say at which input.
  Laid BY PROGRAM, IN A SANDBOX (cutbox-rows.mjs): the forced cells as the released guide's own fill.sh prints them over the translation 74f767cadbb46379… (all of the seat's roots in one cut). By AI agents, Wed Nov 11 2026. No macro, syntax, notation, axiom, sorry.
-/
import Derived.Test.YbulkbicoChecked
import GoSem.Claim
import GoSem.ClaimJoined
import GoSem.ClaimMapViews
import Derived.JoinedTies
import Derived.KernelRfl
namespace Go.Proofs.Ybulkbico
/- THE CELL 'sum', in the pinned program and in every row, IS THE sha256 OF THE DUMP (.gsa) THAT YbulkbicoProg.lean LOADS. Nothing in Lean hashes anything: it is a label: what it is worth is what the hold of that sum in a sandbox is worth. -/
noncomputable def Yba.pinned : Pinned := { name := "ybulkbico", sum := "74f767cadbb463797b05c8f8ee7b43300e0ff8c65b88698ffb20d928eb645983", checked := Yba.checked }
namespace Rows
def none {H : Type} : Left H := { results := [], args := [] }

/-- 'inkbyte.LawS2952BExact': WHATEVER THE INPUT: true; the input reads as it did. -/
def lawS2952BExactSpec : ChangeSpec := { name := "lawS2952BExact", fn := fun _ => fun
  | [d1, d2, d3] => { results := [.lit (.bool true)], args := [d1, d2, d3] }
  | _ => none }
def lawS2952BExactRow : OpenClaim := { program := "ybulkbico", sum := "74f767cadbb463797b05c8f8ee7b43300e0ff8c65b88698ffb20d928eb645983", func := "inkbyte.example/inkbyte.LawS2952BExact", spec := "lawS2952BExact", inPlace := ["math.Float64bits"], apart := false }
def LawS2952BExactSaid : Prop := lawS2952BExactRow.holds Yba.pinned (OpenSpec.ofChange lawS2952BExactSpec)

/-- ITS FALSE NEIGHBOUR: 'it returns false'. Refute it at one input. -/
def lawS2952BExactWrong : ChangeSpec := { name := "lawS2952BExact", fn := fun _ => fun
  | [d1, d2, d3] => { results := [.lit (.bool false)], args := [d1, d2, d3] }
  | _ => none }
def LawS2952BExactWrongFalsely : Prop := lawS2952BExactRow.holds Yba.pinned (OpenSpec.ofChange lawS2952BExactWrong)

/-- 'inkbyte.LawS2952BOrder': WHATEVER THE INPUT: true; the input reads as it did. -/
def lawS2952BOrderSpec : ChangeSpec := { name := "lawS2952BOrder", fn := fun _ => fun
  | [d1, d2, d3] => { results := [.lit (.bool true)], args := [d1, d2, d3] }
  | _ => none }
def lawS2952BOrderRow : OpenClaim := { program := "ybulkbico", sum := "74f767cadbb463797b05c8f8ee7b43300e0ff8c65b88698ffb20d928eb645983", func := "inkbyte.example/inkbyte.LawS2952BOrder", spec := "lawS2952BOrder", inPlace := ["math.Float64bits"], apart := false }
def LawS2952BOrderSaid : Prop := lawS2952BOrderRow.holds Yba.pinned (OpenSpec.ofChange lawS2952BOrderSpec)

/-- ITS FALSE NEIGHBOUR: 'it returns false'. Refute it at one input. -/
def lawS2952BOrderWrong : ChangeSpec := { name := "lawS2952BOrder", fn := fun _ => fun
  | [d1, d2, d3] => { results := [.lit (.bool false)], args := [d1, d2, d3] }
  | _ => none }
def LawS2952BOrderWrongFalsely : Prop := lawS2952BOrderRow.holds Yba.pinned (OpenSpec.ofChange lawS2952BOrderWrong)

end Rows
end Go.Proofs.Ybulkbico
