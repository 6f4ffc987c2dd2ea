/-
  No cell of these rows narrows 'for every input' (looked for: loops, veiled, ifaces, maps, wideKeys, modest, calm, conditions, laid).
  DERIVED. THE GIVEN ROWS OF THIS SEAT. 2 by the template 'for every input the law returns true; each argument reads behind the call as it read before'; 0 by the template 'total and deterministic' (their statements: YbulkczfcTotals.lean).
  GIVEN WITH THE SEED: the statements are not yours to turn. If you find one false, say at which input.
  Laid BY PROGRAM, IN A SANDBOX (cutbox-rows.mjs): the forced cells as the released guide's own fill.sh prints them over the translation cde4341263a752e1… (all of the seat's roots in one cut). By AI agents, Wed Nov 11 2026. No macro, syntax, notation, axiom, sorry.
-/
import Derived.Test.YbulkczfcChecked
import GoSem.Claim
import GoSem.ClaimJoined
import GoSem.ClaimMapViews
import Derived.JoinedTies
import Derived.KernelRfl
namespace Go.Proofs.Ybulkczfc
/- THE CELL 'sum', in the pinned program and in every row, IS THE sha256 OF THE DUMP (.gsa) THAT YbulkczfcProg.lean LOADS. Nothing in Lean hashes anything: it is a label: what it is worth is what the hold of that sum in a sandbox is worth. -/
noncomputable def Yba.pinned : Pinned := { name := "ybulkczfc", sum := "cde4341263a752e1a5983c01d05df80c7b0980772916761c3c860e9eaf15ee83", checked := Yba.checked }
namespace Rows
def none {H : Type} : Left H := { results := [], args := [] }

/-- 'hashweave.LawS5033BExact': WHATEVER THE INPUT: true; the input reads as it did. -/
def lawS5033BExactSpec : ChangeSpec := { name := "lawS5033BExact", fn := fun _ => fun
  | [d1, d2, d3] => { results := [.lit (.bool true)], args := [d1, d2, d3] }
  | _ => none }
def lawS5033BExactRow : OpenClaim := { program := "ybulkczfc", sum := "cde4341263a752e1a5983c01d05df80c7b0980772916761c3c860e9eaf15ee83", func := "example.com/hashweave/hashweave.LawS5033BExact", spec := "lawS5033BExact", inPlace := ["math/bits.Add64"], apart := false }
def LawS5033BExactSaid : Prop := lawS5033BExactRow.holds Yba.pinned (OpenSpec.ofChange lawS5033BExactSpec)

/-- ITS FALSE NEIGHBOUR: 'it returns false'. Refute it at one input. -/
def lawS5033BExactWrong : ChangeSpec := { name := "lawS5033BExact", fn := fun _ => fun
  | [d1, d2, d3] => { results := [.lit (.bool false)], args := [d1, d2, d3] }
  | _ => none }
def LawS5033BExactWrongFalsely : Prop := lawS5033BExactRow.holds Yba.pinned (OpenSpec.ofChange lawS5033BExactWrong)

/-- 'hashweave.LawS5033BSwap': WHATEVER THE INPUT: true; the input reads as it did. -/
def lawS5033BSwapSpec : ChangeSpec := { name := "lawS5033BSwap", fn := fun _ => fun
  | [d1, d2, d3] => { results := [.lit (.bool true)], args := [d1, d2, d3] }
  | _ => none }
def lawS5033BSwapRow : OpenClaim := { program := "ybulkczfc", sum := "cde4341263a752e1a5983c01d05df80c7b0980772916761c3c860e9eaf15ee83", func := "example.com/hashweave/hashweave.LawS5033BSwap", spec := "lawS5033BSwap", inPlace := ["math/bits.Add64"], apart := false }
def LawS5033BSwapSaid : Prop := lawS5033BSwapRow.holds Yba.pinned (OpenSpec.ofChange lawS5033BSwapSpec)

/-- ITS FALSE NEIGHBOUR: 'it returns false'. Refute it at one input. -/
def lawS5033BSwapWrong : ChangeSpec := { name := "lawS5033BSwap", fn := fun _ => fun
  | [d1, d2, d3] => { results := [.lit (.bool false)], args := [d1, d2, d3] }
  | _ => none }
def LawS5033BSwapWrongFalsely : Prop := lawS5033BSwapRow.holds Yba.pinned (OpenSpec.ofChange lawS5033BSwapWrong)

end Rows
end Go.Proofs.Ybulkczfc
