/-
  NARROWER THAN 'FOR EVERY INPUT', by the rows' own cells (each row's printed sentence says how): LawS2946BWays: maps.
  DERIVED. THE GIVEN ROWS OF THIS SEAT. 3 by the template 'for every input the law returns true; each argument reads behind the call as it read before'; 0 by the template 'total and deterministic' (their statements: YbulkbhziTotals.lean).
  GIVEN WITH THE SEED: the statements are not yours to turn. If you find one false, say at which input.
  Laid BY PROGRAM, IN A SANDBOX (cutbox-rows.mjs): the forced cells as the released guide's own fill.sh prints them over the translation 23b97da7b35fc1db… (all of the seat's roots in one cut). By AI agents, Wed Nov 11 2026. No macro, syntax, notation, axiom, sorry.
-/
import Derived.Test.YbulkbhziChecked
import GoSem.Claim
import GoSem.ClaimJoined
import GoSem.ClaimMapViews
import Derived.JoinedTies
import Derived.KernelRfl
namespace Go.Proofs.Ybulkbhzi
/- THE CELL 'sum', in the pinned program and in every row, IS THE sha256 OF THE DUMP (.gsa) THAT YbulkbhziProg.lean LOADS. Nothing in Lean hashes anything: it is a label: what it is worth is what the hold of that sum in a sandbox is worth. -/
noncomputable def Yba.pinned : Pinned := { name := "ybulkbhzi", sum := "23b97da7b35fc1db0d6a4cbf4e57e33b92680e2ed82a639d3ea6868706314759", checked := Yba.checked }
namespace Rows
def none {H : Type} : Left H := { results := [], args := [] }

/-- 'analyze.LawS2946BWays': WHATEVER THE INPUT: true; the input reads as it did. -/
def lawS2946BWaysSpec : ChangeSpec := { name := "lawS2946BWays", fn := fun _ => fun
  | [d1, d2, d3, d4, d5, d6] => { results := [.lit (.bool true)], args := [d1, d2, d3, d4, d5, d6] }
  | _ => none }
def lawS2946BWaysRow : OpenClaim := { program := "ybulkbhzi", sum := "23b97da7b35fc1db0d6a4cbf4e57e33b92680e2ed82a639d3ea6868706314759", func := "example.com/ravel/ravel/pkg/analyze.LawS2946BWays", spec := "lawS2946BWays", maps := true, plainKeys := false, apart := false }
def LawS2946BWaysSaid : Prop := lawS2946BWaysRow.holds Yba.pinned (OpenSpec.ofChange lawS2946BWaysSpec)

/-- ITS FALSE NEIGHBOUR: 'it returns false'. Refute it at one input. -/
def lawS2946BWaysWrong : ChangeSpec := { name := "lawS2946BWays", fn := fun _ => fun
  | [d1, d2, d3, d4, d5, d6] => { results := [.lit (.bool false)], args := [d1, d2, d3, d4, d5, d6] }
  | _ => none }
def LawS2946BWaysWrongFalsely : Prop := lawS2946BWaysRow.holds Yba.pinned (OpenSpec.ofChange lawS2946BWaysWrong)

/-- 'analyze.LawS2946CHeld': WHATEVER THE INPUT: true; the input reads as it did. -/
def lawS2946CHeldSpec : ChangeSpec := { name := "lawS2946CHeld", fn := fun _ => fun
  | [d1, d2] => { results := [.lit (.bool true)], args := [d1, d2] }
  | _ => none }
def lawS2946CHeldRow : OpenClaim := { program := "ybulkbhzi", sum := "23b97da7b35fc1db0d6a4cbf4e57e33b92680e2ed82a639d3ea6868706314759", func := "example.com/ravel/ravel/pkg/analyze.LawS2946CHeld", spec := "lawS2946CHeld", plainKeys := false, apart := false }
def LawS2946CHeldSaid : Prop := lawS2946CHeldRow.holds Yba.pinned (OpenSpec.ofChange lawS2946CHeldSpec)

/-- ITS FALSE NEIGHBOUR: 'it returns false'. Refute it at one input. -/
def lawS2946CHeldWrong : ChangeSpec := { name := "lawS2946CHeld", fn := fun _ => fun
  | [d1, d2] => { results := [.lit (.bool false)], args := [d1, d2] }
  | _ => none }
def LawS2946CHeldWrongFalsely : Prop := lawS2946CHeldRow.holds Yba.pinned (OpenSpec.ofChange lawS2946CHeldWrong)

/-- 'analyze.LawS2946CTaken': WHATEVER THE INPUT: true; the input reads as it did. -/
def lawS2946CTakenSpec : ChangeSpec := { name := "lawS2946CTaken", fn := fun _ => fun
  | [d] => { results := [.lit (.bool true)], args := [d] }
  | _ => none }
def lawS2946CTakenRow : OpenClaim := { program := "ybulkbhzi", sum := "23b97da7b35fc1db0d6a4cbf4e57e33b92680e2ed82a639d3ea6868706314759", func := "example.com/ravel/ravel/pkg/analyze.LawS2946CTaken", spec := "lawS2946CTaken", plainKeys := false, apart := false }
def LawS2946CTakenSaid : Prop := lawS2946CTakenRow.holds Yba.pinned (OpenSpec.ofChange lawS2946CTakenSpec)

/-- ITS FALSE NEIGHBOUR: 'it returns false'. Refute it at one input. -/
def lawS2946CTakenWrong : ChangeSpec := { name := "lawS2946CTaken", fn := fun _ => fun
  | [d] => { results := [.lit (.bool false)], args := [d] }
  | _ => none }
def LawS2946CTakenWrongFalsely : Prop := lawS2946CTakenRow.holds Yba.pinned (OpenSpec.ofChange lawS2946CTakenWrong)

end Rows
end Go.Proofs.Ybulkbhzi
