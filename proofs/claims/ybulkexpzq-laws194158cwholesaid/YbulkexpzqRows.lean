/-
  No cell of these rows narrows 'for every input' (looked for: loops, veiled, ifaces, maps, wideKeys, modest, calm, conditions, laid).
  DERIVED. THE GIVEN ROWS OF THIS SEAT. 1 by the template 'for every input the law returns true; each argument reads behind the call as it read before'; 0 by the template 'total and deterministic' (their statements: YbulkexpzqTotals.lean).
  GIVEN WITH THE SEED: the statements are not yours to turn. If you find one false, say at which input.
  Laid BY PROGRAM, IN A SANDBOX (cutbox-rows.mjs): the forced cells as the released guide's own fill.sh prints them over the translation 1b0c2009049d4a31… (all of the seat's roots in one cut). By AI agents, Wed Nov 11 2026. No macro, syntax, notation, axiom, sorry.
-/
import Derived.Test.YbulkexpzqChecked
import GoSem.Claim
import GoSem.ClaimJoined
import GoSem.ClaimMapViews
import Derived.JoinedTies
import Derived.KernelRfl
namespace Go.Proofs.Ybulkexpzq
/- THE CELL 'sum', in the pinned program and in every row, IS THE sha256 OF THE DUMP (.gsa) THAT YbulkexpzqProg.lean LOADS. Nothing in Lean hashes anything: it is a label: what it is worth is what the hold of that sum in a sandbox is worth. -/
noncomputable def Yba.pinned : Pinned := { name := "ybulkexpzq", sum := "1b0c2009049d4a3149d9ab568c4157c8aaa3ad5f71a805b83331cba29d15d3b2", checked := Yba.checked }
namespace Rows
def none {H : Type} : Left H := { results := [], args := [] }

/-- 'tokenizer.LawS194158CWhole': WHATEVER THE INPUT: true; the input reads as it did. -/
def lawS194158CWholeSpec : ChangeSpec := { name := "lawS194158CWhole", fn := fun _ => fun
  | [d1, d2, d3, d4, d5, d6, d7, d8, d9, d10, d11, d12] => { results := [.lit (.bool true)], args := [d1, d2, d3, d4, d5, d6, d7, d8, d9, d10, d11, d12] }
  | _ => none }
def lawS194158CWholeRow : OpenClaim := { program := "ybulkexpzq", sum := "1b0c2009049d4a3149d9ab568c4157c8aaa3ad5f71a805b83331cba29d15d3b2", func := "example.com/valiform/valiform/pkg/tokenizer.LawS194158CWhole", spec := "lawS194158CWhole", apart := false }
def LawS194158CWholeSaid : Prop := lawS194158CWholeRow.holds Yba.pinned (OpenSpec.ofChange lawS194158CWholeSpec)

/-- ITS FALSE NEIGHBOUR: 'it returns false'. Refute it at one input. -/
def lawS194158CWholeWrong : ChangeSpec := { name := "lawS194158CWhole", fn := fun _ => fun
  | [d1, d2, d3, d4, d5, d6, d7, d8, d9, d10, d11, d12] => { results := [.lit (.bool false)], args := [d1, d2, d3, d4, d5, d6, d7, d8, d9, d10, d11, d12] }
  | _ => none }
def LawS194158CWholeWrongFalsely : Prop := lawS194158CWholeRow.holds Yba.pinned (OpenSpec.ofChange lawS194158CWholeWrong)

end Rows
end Go.Proofs.Ybulkexpzq
