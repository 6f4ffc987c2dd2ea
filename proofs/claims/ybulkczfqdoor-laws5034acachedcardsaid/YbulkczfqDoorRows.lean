/-
  NARROWER THAN 'FOR EVERY INPUT', by the rows' own cells (each row's printed sentence says how): LawS5034ACached: laid.
  DERIVED. THE GIVEN ROWS OF THIS SEAT. 1 by the template 'for every input the law returns true; each argument reads behind the call as it read before'; 0 by the template 'total and deterministic' (their statements: YbulkczfqDoorTotals.lean).
  GIVEN WITH THE SEED: the statements are not yours to turn. If you find one false, say at which input.
  Laid BY PROGRAM, IN A SANDBOX (cutbox-rows.mjs): the forced cells as the released guide's own fill.sh prints them over the translation a1220e19ee449fa9… (all of the seat's roots in one cut). By AI agents, Wed Nov 11 2026. No macro, syntax, notation, axiom, sorry.
-/
import Derived.Test.YbulkczfqDoorChecked
import GoSem.Claim
import GoSem.ClaimJoined
import GoSem.ClaimMapViews
import Derived.JoinedTies
import Derived.KernelRfl
namespace Go.Proofs.YbulkczfqDoor
/- THE CELL 'sum', in the pinned program and in every row, IS THE sha256 OF THE DUMP (.gsa) THAT YbulkczfqDoorProg.lean LOADS. Nothing in Lean hashes anything: it is a label: what it is worth is what the hold of that sum in a sandbox is worth. -/
noncomputable def Ybad.pinned : Pinned := { name := "ybulkczfqdoor", sum := "a1220e19ee449fa9e9c81f4a7d378a13a702de667439329510c86a578ac926c4", checked := Ybad.checked }
namespace Rows
def none {H : Type} : Left H := { results := [], args := [] }

/- WHAT THE LISTED PACKAGE-LEVEL VARIABLES READ AS WHEN THE CALL BEGINS. Each datum BY PROGRAM (the guide's laid-datum.mjs) off the statement by which the dump's own 'gosem.cut.vars' lays the variable. In a bare row this is a premise. The card (YbulkczfqDoorCards.lean) ties it to the program's text. -/
def laid_runesieve_example_runesieve_keptLists {H : Type} : DataW H := .lit (.int .i64 64)
def laid_runesieve_example_runesieve_deepWays {H : Type} : DataW H := .lit (.int .i64 4096)

/-- 'runesieve.LawS5034ACached': WHATEVER THE INPUT: true; the input reads as it did. -/
def lawS5034ACachedSpec : ChangeSpec := { name := "lawS5034ACached", vars := ["runesieve.example/runesieve.keptLists", "runesieve.example/runesieve.deepWays"], fn := fun _ => fun
  | [d1, d2, d3, d4, d5, g1, g2] => { results := [.lit (.bool true)], args := [d1, d2, d3, d4, d5], vars := [g1, g2] }
  | _ => none }
def lawS5034ACachedRow : OpenClaim := { program := "ybulkczfqdoor", sum := "a1220e19ee449fa9e9c81f4a7d378a13a702de667439329510c86a578ac926c4", func := "runesieve.example/runesieve.LawS5034ACached", spec := "lawS5034ACached", unfollowed := true, recurses := true, named := ["runesieve.example/runesieve.keptLists", "runesieve.example/runesieve.deepWays"], plainKeys := false, apart := false, laid := [("runesieve.example/runesieve.keptLists", laid_runesieve_example_runesieve_keptLists), ("runesieve.example/runesieve.deepWays", laid_runesieve_example_runesieve_deepWays)] }
def LawS5034ACachedSaid : Prop := lawS5034ACachedRow.holds Ybad.pinned (OpenSpec.ofChange lawS5034ACachedSpec)

/-- ITS FALSE NEIGHBOUR: 'it returns false'. Refute it at one input. -/
def lawS5034ACachedWrong : ChangeSpec := { name := "lawS5034ACached", vars := ["runesieve.example/runesieve.keptLists", "runesieve.example/runesieve.deepWays"], fn := fun _ => fun
  | [d1, d2, d3, d4, d5, g1, g2] => { results := [.lit (.bool false)], args := [d1, d2, d3, d4, d5], vars := [g1, g2] }
  | _ => none }
def LawS5034ACachedWrongFalsely : Prop := lawS5034ACachedRow.holds Ybad.pinned (OpenSpec.ofChange lawS5034ACachedWrong)

end Rows
end Go.Proofs.YbulkczfqDoor
