/-
  No cell of these rows narrows 'for every input' (looked for: loops, veiled, ifaces, maps, wideKeys, modest, calm, conditions, laid).
  DERIVED. THE GIVEN ROWS OF THIS SEAT. 3 by the template 'for every input the law returns true; each argument reads behind the call as it read before'; 0 by the template 'total and deterministic' (their statements: YbulkczfqTotals.lean).
  GIVEN WITH THE SEED: the statements are not yours to turn. If you find one false, say at which input.
  Laid BY PROGRAM, IN A SANDBOX (cutbox-rows.mjs): the forced cells as the released guide's own fill.sh prints them over the translation 6157a4f847ae8bfe… (all of the seat's roots in one cut). By AI agents, Wed Nov 11 2026. No macro, syntax, notation, axiom, sorry.
-/
import Derived.Test.YbulkczfqChecked
import GoSem.Claim
import GoSem.ClaimJoined
import GoSem.ClaimMapViews
import Derived.JoinedTies
import Derived.KernelRfl
namespace Go.Proofs.Ybulkczfq
/- THE CELL 'sum', in the pinned program and in every row, IS THE sha256 OF THE DUMP (.gsa) THAT YbulkczfqProg.lean LOADS. Nothing in Lean hashes anything: it is a label: what it is worth is what the hold of that sum in a sandbox is worth. -/
noncomputable def Yba.pinned : Pinned := { name := "ybulkczfq", sum := "6157a4f847ae8bfe8a830e362eca0dcadc239bbd049d01f13b42169caa1b4434", checked := Yba.checked }
namespace Rows
def none {H : Type} : Left H := { results := [], args := [] }

/-- 'runesieve.LawS5034BModel': WHATEVER THE INPUT: true; the input reads as it did. -/
def lawS5034BModelSpec : ChangeSpec := { name := "lawS5034BModel", fn := fun _ => fun
  | [d] => { results := [.lit (.bool true)], args := [d] }
  | _ => none }
def lawS5034BModelRow : OpenClaim := { program := "ybulkczfq", sum := "6157a4f847ae8bfe8a830e362eca0dcadc239bbd049d01f13b42169caa1b4434", func := "runesieve.example/runesieve.LawS5034BModel", spec := "lawS5034BModel", apart := false }
def LawS5034BModelSaid : Prop := lawS5034BModelRow.holds Yba.pinned (OpenSpec.ofChange lawS5034BModelSpec)

/-- ITS FALSE NEIGHBOUR: 'it returns false'. Refute it at one input. -/
def lawS5034BModelWrong : ChangeSpec := { name := "lawS5034BModel", fn := fun _ => fun
  | [d] => { results := [.lit (.bool false)], args := [d] }
  | _ => none }
def LawS5034BModelWrongFalsely : Prop := lawS5034BModelRow.holds Yba.pinned (OpenSpec.ofChange lawS5034BModelWrong)

/-- 'runesieve.LawS5034BFirst': WHATEVER THE INPUT: true; the input reads as it did. -/
def lawS5034BFirstSpec : ChangeSpec := { name := "lawS5034BFirst", fn := fun _ => fun
  | [d1, d2, d3] => { results := [.lit (.bool true)], args := [d1, d2, d3] }
  | _ => none }
def lawS5034BFirstRow : OpenClaim := { program := "ybulkczfq", sum := "6157a4f847ae8bfe8a830e362eca0dcadc239bbd049d01f13b42169caa1b4434", func := "runesieve.example/runesieve.LawS5034BFirst", spec := "lawS5034BFirst", apart := false }
def LawS5034BFirstSaid : Prop := lawS5034BFirstRow.holds Yba.pinned (OpenSpec.ofChange lawS5034BFirstSpec)

/-- ITS FALSE NEIGHBOUR: 'it returns false'. Refute it at one input. -/
def lawS5034BFirstWrong : ChangeSpec := { name := "lawS5034BFirst", fn := fun _ => fun
  | [d1, d2, d3] => { results := [.lit (.bool false)], args := [d1, d2, d3] }
  | _ => none }
def LawS5034BFirstWrongFalsely : Prop := lawS5034BFirstRow.holds Yba.pinned (OpenSpec.ofChange lawS5034BFirstWrong)

/-- 'runesieve.LawS5034CTable': WHATEVER THE INPUT: true; the input reads as it did. -/
def lawS5034CTableSpec : ChangeSpec := { name := "lawS5034CTable", fn := fun _ => fun
  | [d1, d2, d3] => { results := [.lit (.bool true)], args := [d1, d2, d3] }
  | _ => none }
def lawS5034CTableRow : OpenClaim := { program := "ybulkczfq", sum := "6157a4f847ae8bfe8a830e362eca0dcadc239bbd049d01f13b42169caa1b4434", func := "runesieve.example/runesieve.LawS5034CTable", spec := "lawS5034CTable", unfollowed := true, recurses := true, apart := false }
def LawS5034CTableSaid : Prop := lawS5034CTableRow.holds Yba.pinned (OpenSpec.ofChange lawS5034CTableSpec)

/-- ITS FALSE NEIGHBOUR: 'it returns false'. Refute it at one input. -/
def lawS5034CTableWrong : ChangeSpec := { name := "lawS5034CTable", fn := fun _ => fun
  | [d1, d2, d3] => { results := [.lit (.bool false)], args := [d1, d2, d3] }
  | _ => none }
def LawS5034CTableWrongFalsely : Prop := lawS5034CTableRow.holds Yba.pinned (OpenSpec.ofChange lawS5034CTableWrong)

end Rows
end Go.Proofs.Ybulkczfq
