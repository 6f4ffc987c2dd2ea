/-
  No cell of these rows narrows 'for every input' (looked for: loops, veiled, ifaces, maps, wideKeys, modest, calm, conditions, laid).
  DERIVED. THE GIVEN ROWS OF THIS SEAT. 2 by the template 'for every input the law returns true; each argument reads behind the call as it read before'; 0 by the template 'total and deterministic' (their statements: YbulkczgeTotals.lean).
  GIVEN WITH THE SEED: the statements are not yours to turn. If you find one false, say at which input.
  Laid BY PROGRAM, IN A SANDBOX (cutbox-rows.mjs): the forced cells as the released guide's own fill.sh prints them over the translation f4a89343ea5c2a76… (all of the seat's roots in one cut). By AI agents, Wed Nov 11 2026. No macro, syntax, notation, axiom, sorry.
-/
import Derived.Test.YbulkczgeChecked
import GoSem.Claim
import GoSem.ClaimJoined
import GoSem.ClaimMapViews
import Derived.JoinedTies
import Derived.KernelRfl
namespace Go.Proofs.Ybulkczge
/- THE CELL 'sum', in the pinned program and in every row, IS THE sha256 OF THE DUMP (.gsa) THAT YbulkczgeProg.lean LOADS. Nothing in Lean hashes anything: it is a label: what it is worth is what the hold of that sum in a sandbox is worth. -/
noncomputable def Yba.pinned : Pinned := { name := "ybulkczge", sum := "f4a89343ea5c2a76b4d277262e05979f8574206b48ac4375b564fa4fd7e5ae36", checked := Yba.checked }
namespace Rows
def none {H : Type} : Left H := { results := [], args := [] }

/-- 'keyparcel.LawS5035CExact': WHATEVER THE INPUT: true; the input reads as it did. -/
def lawS5035CExactSpec : ChangeSpec := { name := "lawS5035CExact", fn := fun _ => fun
  | [d1, d2] => { results := [.lit (.bool true)], args := [d1, d2] }
  | _ => none }
def lawS5035CExactRow : OpenClaim := { program := "ybulkczge", sum := "f4a89343ea5c2a76b4d277262e05979f8574206b48ac4375b564fa4fd7e5ae36", func := "example.com/keyparcel/keyparcel.LawS5035CExact", spec := "lawS5035CExact", apart := false }
def LawS5035CExactSaid : Prop := lawS5035CExactRow.holds Yba.pinned (OpenSpec.ofChange lawS5035CExactSpec)

/-- ITS FALSE NEIGHBOUR: 'it returns false'. Refute it at one input. -/
def lawS5035CExactWrong : ChangeSpec := { name := "lawS5035CExact", fn := fun _ => fun
  | [d1, d2] => { results := [.lit (.bool false)], args := [d1, d2] }
  | _ => none }
def LawS5035CExactWrongFalsely : Prop := lawS5035CExactRow.holds Yba.pinned (OpenSpec.ofChange lawS5035CExactWrong)

/-- 'keyparcel.LawS5035CFresh': WHATEVER THE INPUT: true; the input reads as it did. -/
def lawS5035CFreshSpec : ChangeSpec := { name := "lawS5035CFresh", fn := fun _ => fun
  | [d] => { results := [.lit (.bool true)], args := [d] }
  | _ => none }
def lawS5035CFreshRow : OpenClaim := { program := "ybulkczge", sum := "f4a89343ea5c2a76b4d277262e05979f8574206b48ac4375b564fa4fd7e5ae36", func := "example.com/keyparcel/keyparcel.LawS5035CFresh", spec := "lawS5035CFresh", apart := false }
def LawS5035CFreshSaid : Prop := lawS5035CFreshRow.holds Yba.pinned (OpenSpec.ofChange lawS5035CFreshSpec)

/-- ITS FALSE NEIGHBOUR: 'it returns false'. Refute it at one input. -/
def lawS5035CFreshWrong : ChangeSpec := { name := "lawS5035CFresh", fn := fun _ => fun
  | [d] => { results := [.lit (.bool false)], args := [d] }
  | _ => none }
def LawS5035CFreshWrongFalsely : Prop := lawS5035CFreshRow.holds Yba.pinned (OpenSpec.ofChange lawS5035CFreshWrong)

end Rows
end Go.Proofs.Ybulkczge
