/-
  No cell of these rows narrows 'for every input' (looked for: loops, veiled, ifaces, maps, wideKeys, modest, calm, conditions, laid).
  DERIVED. THE GIVEN ROWS OF THIS SEAT. 1 by the template 'for every input the law returns true; each argument reads behind the call as it read before'; 0 by the template 'total and deterministic' (their statements: YbulkcznsTotals.lean).
  GIVEN WITH THE SEED: the statements are not yours to turn. If you find one false, say at which input.
  Laid BY PROGRAM, IN A SANDBOX (cutbox-rows.mjs): the forced cells as the released guide's own fill.sh prints them over the translation ce9d070636cd1f99… (all of the seat's roots in one cut). By AI agents, Wed Nov 11 2026. No macro, syntax, notation, axiom, sorry.
-/
import Derived.Test.YbulkcznsChecked
import GoSem.Claim
import GoSem.ClaimJoined
import GoSem.ClaimMapViews
import Derived.JoinedTies
import Derived.KernelRfl
namespace Go.Proofs.Ybulkczns
/- THE CELL 'sum', in the pinned program and in every row, IS THE sha256 OF THE DUMP (.gsa) THAT YbulkcznsProg.lean LOADS. Nothing in Lean hashes anything: it is a label: what it is worth is what the hold of that sum in a sandbox is worth. -/
noncomputable def Yba.pinned : Pinned := { name := "ybulkczns", sum := "ce9d070636cd1f99d183cdc6dc3cc76ac8c03ada9ce2d264da80c93c56f0821c", checked := Yba.checked }
namespace Rows
def none {H : Type} : Left H := { results := [], args := [] }

/-- 'resolve.LawS5049BOrder': WHATEVER THE INPUT: true; the input reads as it did. -/
def lawS5049BOrderSpec : ChangeSpec := { name := "lawS5049BOrder", fn := fun _ => fun
  | [d] => { results := [.lit (.bool true)], args := [d] }
  | _ => none }
def lawS5049BOrderRow : OpenClaim := { program := "ybulkczns", sum := "ce9d070636cd1f99d183cdc6dc3cc76ac8c03ada9ce2d264da80c93c56f0821c", func := "example.com/pinwright/pinwright/resolve.LawS5049BOrder", spec := "lawS5049BOrder", apart := false }
def LawS5049BOrderSaid : Prop := lawS5049BOrderRow.holds Yba.pinned (OpenSpec.ofChange lawS5049BOrderSpec)

/-- ITS FALSE NEIGHBOUR: 'it returns false'. Refute it at one input. -/
def lawS5049BOrderWrong : ChangeSpec := { name := "lawS5049BOrder", fn := fun _ => fun
  | [d] => { results := [.lit (.bool false)], args := [d] }
  | _ => none }
def LawS5049BOrderWrongFalsely : Prop := lawS5049BOrderRow.holds Yba.pinned (OpenSpec.ofChange lawS5049BOrderWrong)

end Rows
end Go.Proofs.Ybulkczns
