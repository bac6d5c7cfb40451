/-
  No cell of these rows narrows 'for every input' (looked for: loops, veiled, ifaces, maps, wideKeys, modest, calm, conditions, laid).
  DERIVED. THE GIVEN ROWS OF THIS SEAT. 1 by the template 'for every input the law returns true; each argument reads behind the call as it read before'; 0 by the template 'total and deterministic' (their statements: YbulkacrpvkTotals.lean).
  GIVEN WITH THE SEED: the statements are not yours to turn. If you find one false, say at which input.
  Laid BY PROGRAM, IN A SANDBOX (cutbox-rows.mjs): the forced cells as the released guide's own fill.sh prints them over the translation c5a89bd8ff723109… (all of the seat's roots in one cut). By AI agents, Wed Nov 11 2026. No macro, syntax, notation, axiom, sorry.
-/
import Derived.Test.YbulkacrpvkChecked
import GoSem.Claim
import GoSem.ClaimJoined
import GoSem.ClaimMapViews
import Derived.JoinedTies
import Derived.KernelRfl
namespace Go.Proofs.Ybulkacrpvk
/- THE CELL 'sum', in the pinned program and in every row, IS THE sha256 OF THE DUMP (.gsa) THAT YbulkacrpvkProg.lean LOADS. Nothing in Lean hashes anything: it is a label: what it is worth is what the hold of that sum in a sandbox is worth. -/
noncomputable def Yba.pinned : Pinned := { name := "ybulkacrpvk", sum := "c5a89bd8ff723109984a8c265a9311d6f5ea187f4597d875ab3116a8927a3699", checked := Yba.checked }
namespace Rows
def none {H : Type} : Left H := { results := [], args := [] }

/-- 'apiserver.LawS970005CWhole': WHATEVER THE INPUT: true; the input reads as it did. -/
def lawS970005CWholeSpec : ChangeSpec := { name := "lawS970005CWhole", fn := fun _ => fun
  | [d1, d2] => { results := [.lit (.bool true)], args := [d1, d2] }
  | _ => none }
def lawS970005CWholeRow : OpenClaim := { program := "ybulkacrpvk", sum := "c5a89bd8ff723109984a8c265a9311d6f5ea187f4597d875ab3116a8927a3699", func := "example.com/helmstead/helmstead/internal/apiserver.LawS970005CWhole", spec := "lawS970005CWhole", apart := false }
def LawS970005CWholeSaid : Prop := lawS970005CWholeRow.holds Yba.pinned (OpenSpec.ofChange lawS970005CWholeSpec)

/-- ITS FALSE NEIGHBOUR: 'it returns false'. Refute it at one input. -/
def lawS970005CWholeWrong : ChangeSpec := { name := "lawS970005CWhole", fn := fun _ => fun
  | [d1, d2] => { results := [.lit (.bool false)], args := [d1, d2] }
  | _ => none }
def LawS970005CWholeWrongFalsely : Prop := lawS970005CWholeRow.holds Yba.pinned (OpenSpec.ofChange lawS970005CWholeWrong)

end Rows
end Go.Proofs.Ybulkacrpvk
