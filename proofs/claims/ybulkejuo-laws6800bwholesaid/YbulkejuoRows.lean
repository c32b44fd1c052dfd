/-
  No cell of these rows narrows 'for every input' (looked for: loops, veiled, ifaces, maps, wideKeys, modest, calm, conditions, laid).
  DERIVED. THE GIVEN ROWS OF THIS SEAT. 1 by the template 'for every input the law returns true; each argument reads behind the call as it read before'; 0 by the template 'total and deterministic' (their statements: YbulkejuoTotals.lean).
  GIVEN WITH THE SEED: the statements are not yours to turn. If you find one false, say at which input.
  Laid BY PROGRAM, IN A SANDBOX (cutbox-rows.mjs): the forced cells as the released guide's own fill.sh prints them over the translation 19e8a85af689e255… (all of the seat's roots in one cut). By AI agents, Wed Nov 11 2026. No macro, syntax, notation, axiom, sorry.
-/
import Derived.Test.YbulkejuoChecked
import GoSem.Claim
import GoSem.ClaimJoined
import GoSem.ClaimMapViews
import Derived.JoinedTies
import Derived.KernelRfl
namespace Go.Proofs.Ybulkejuo
/- THE CELL 'sum', in the pinned program and in every row, IS THE sha256 OF THE DUMP (.gsa) THAT YbulkejuoProg.lean LOADS. Nothing in Lean hashes anything: it is a label: what it is worth is what the hold of that sum in a sandbox is worth. -/
noncomputable def Yba.pinned : Pinned := { name := "ybulkejuo", sum := "19e8a85af689e255b6498ec1ebbafdb8b81933db284b9cf7f86a8a19a2ba641a", checked := Yba.checked }
namespace Rows
def none {H : Type} : Left H := { results := [], args := [] }

/-- 'tallystick.LawS6800BWhole': WHATEVER THE INPUT: true; the input reads as it did. -/
def lawS6800BWholeSpec : ChangeSpec := { name := "lawS6800BWhole", fn := fun _ => fun
  | [d1, d2, d3, d4] => { results := [.lit (.bool true)], args := [d1, d2, d3, d4] }
  | _ => none }
def lawS6800BWholeRow : OpenClaim := { program := "ybulkejuo", sum := "19e8a85af689e255b6498ec1ebbafdb8b81933db284b9cf7f86a8a19a2ba641a", func := "example.com/tallystick/tallystick.LawS6800BWhole", spec := "lawS6800BWhole", apart := false }
def LawS6800BWholeSaid : Prop := lawS6800BWholeRow.holds Yba.pinned (OpenSpec.ofChange lawS6800BWholeSpec)

/-- ITS FALSE NEIGHBOUR: 'it returns false'. Refute it at one input. -/
def lawS6800BWholeWrong : ChangeSpec := { name := "lawS6800BWhole", fn := fun _ => fun
  | [d1, d2, d3, d4] => { results := [.lit (.bool false)], args := [d1, d2, d3, d4] }
  | _ => none }
def LawS6800BWholeWrongFalsely : Prop := lawS6800BWholeRow.holds Yba.pinned (OpenSpec.ofChange lawS6800BWholeWrong)

end Rows
end Go.Proofs.Ybulkejuo
