/-
  No cell of these rows narrows 'for every input' (looked for: loops, veiled, ifaces, maps, wideKeys, modest, calm, conditions, laid).
  DERIVED. THE GIVEN ROWS OF THIS SEAT. 1 by the template 'for every input the law returns true; each argument reads behind the call as it read before'; 0 by the template 'total and deterministic' (their statements: YbulkacrqagTotals.lean).
  GIVEN WITH THE SEED: the statements are not yours to turn. If you find one false, say at which input.
  Laid BY PROGRAM, IN A SANDBOX (cutbox-rows.mjs): the forced cells as the released guide's own fill.sh prints them over the translation 7049c31dc8d2e66d… (all of the seat's roots in one cut). By AI agents, Wed Nov 11 2026. No macro, syntax, notation, axiom, sorry.
-/
import Derived.Test.YbulkacrqagChecked
import GoSem.Claim
import GoSem.ClaimJoined
import GoSem.ClaimMapViews
import Derived.JoinedTies
import Derived.KernelRfl
namespace Go.Proofs.Ybulkacrqag
/- THE CELL 'sum', in the pinned program and in every row, IS THE sha256 OF THE DUMP (.gsa) THAT YbulkacrqagProg.lean LOADS. Nothing in Lean hashes anything: it is a label: what it is worth is what the hold of that sum in a sandbox is worth. -/
noncomputable def Yba.pinned : Pinned := { name := "ybulkacrqag", sum := "7049c31dc8d2e66df0d1a1f9833023da0eff4b5b4220cdbc1c144c0944c21abf", checked := Yba.checked }
namespace Rows
def none {H : Type} : Left H := { results := [], args := [] }

/-- 'sim.LawS970014BWhole': WHATEVER THE INPUT: true; the input reads as it did. -/
def lawS970014BWholeSpec : ChangeSpec := { name := "lawS970014BWhole", fn := fun _ => fun
  | [d1, d2, d3, d4, d5, d6] => { results := [.lit (.bool true)], args := [d1, d2, d3, d4, d5, d6] }
  | _ => none }
def lawS970014BWholeRow : OpenClaim := { program := "ybulkacrqag", sum := "7049c31dc8d2e66df0d1a1f9833023da0eff4b5b4220cdbc1c144c0944c21abf", func := "example.com/lamina/lamina/internal/sim.LawS970014BWhole", spec := "lawS970014BWhole", apart := false }
def LawS970014BWholeSaid : Prop := lawS970014BWholeRow.holds Yba.pinned (OpenSpec.ofChange lawS970014BWholeSpec)

/-- ITS FALSE NEIGHBOUR: 'it returns false'. Refute it at one input. -/
def lawS970014BWholeWrong : ChangeSpec := { name := "lawS970014BWhole", fn := fun _ => fun
  | [d1, d2, d3, d4, d5, d6] => { results := [.lit (.bool false)], args := [d1, d2, d3, d4, d5, d6] }
  | _ => none }
def LawS970014BWholeWrongFalsely : Prop := lawS970014BWholeRow.holds Yba.pinned (OpenSpec.ofChange lawS970014BWholeWrong)

end Rows
end Go.Proofs.Ybulkacrqag
