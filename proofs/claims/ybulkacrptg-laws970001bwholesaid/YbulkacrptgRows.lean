/-
  No cell of these rows narrows 'for every input' (looked for: loops, veiled, ifaces, maps, wideKeys, modest, calm, conditions, laid).
  DERIVED. THE GIVEN ROWS OF THIS SEAT. 1 by the template 'for every input the law returns true; each argument reads behind the call as it read before'; 0 by the template 'total and deterministic' (their statements: YbulkacrptgTotals.lean).
  GIVEN WITH THE SEED: the statements are not yours to turn. If you find one false, say at which input.
  Laid BY PROGRAM, IN A SANDBOX (cutbox-rows.mjs): the forced cells as the released guide's own fill.sh prints them over the translation 8e0436874a3c1127… (all of the seat's roots in one cut). By AI agents, Wed Nov 11 2026. No macro, syntax, notation, axiom, sorry.
-/
import Derived.Test.YbulkacrptgChecked
import GoSem.Claim
import GoSem.ClaimJoined
import GoSem.ClaimMapViews
import Derived.JoinedTies
import Derived.KernelRfl
namespace Go.Proofs.Ybulkacrptg
/- THE CELL 'sum', in the pinned program and in every row, IS THE sha256 OF THE DUMP (.gsa) THAT YbulkacrptgProg.lean LOADS. Nothing in Lean hashes anything: it is a label: what it is worth is what the hold of that sum in a sandbox is worth. -/
noncomputable def Yba.pinned : Pinned := { name := "ybulkacrptg", sum := "8e0436874a3c112798e9c5769650c73609cc2bcae78ea9a50f3cee224029738e", checked := Yba.checked }
namespace Rows
def none {H : Type} : Left H := { results := [], args := [] }

/-- 'store.LawS970001BWhole': WHATEVER THE INPUT: true; the input reads as it did. -/
def lawS970001BWholeSpec : ChangeSpec := { name := "lawS970001BWhole", fn := fun _ => fun
  | [d] => { results := [.lit (.bool true)], args := [d] }
  | _ => none }
def lawS970001BWholeRow : OpenClaim := { program := "ybulkacrptg", sum := "8e0436874a3c112798e9c5769650c73609cc2bcae78ea9a50f3cee224029738e", func := "example.com/onceward/onceward/internal/store.LawS970001BWhole", spec := "lawS970001BWhole", apart := false }
def LawS970001BWholeSaid : Prop := lawS970001BWholeRow.holds Yba.pinned (OpenSpec.ofChange lawS970001BWholeSpec)

/-- ITS FALSE NEIGHBOUR: 'it returns false'. Refute it at one input. -/
def lawS970001BWholeWrong : ChangeSpec := { name := "lawS970001BWhole", fn := fun _ => fun
  | [d] => { results := [.lit (.bool false)], args := [d] }
  | _ => none }
def LawS970001BWholeWrongFalsely : Prop := lawS970001BWholeRow.holds Yba.pinned (OpenSpec.ofChange lawS970001BWholeWrong)

end Rows
end Go.Proofs.Ybulkacrptg
