/-
  No cell of these rows narrows 'for every input' (looked for: loops, veiled, ifaces, maps, wideKeys, modest, calm, conditions, laid).
  DERIVED. THE GIVEN ROWS OF THIS SEAT. 1 by the template 'for every input the law returns true; each argument reads behind the call as it read before'; 0 by the template 'total and deterministic' (their statements: YbulkejvcTotals.lean).
  GIVEN WITH THE SEED: the statements are not yours to turn. If you find one false, say at which input.
  Laid BY PROGRAM, IN A SANDBOX (cutbox-rows.mjs): the forced cells as the released guide's own fill.sh prints them over the translation 79c5a16a528aeabd… (all of the seat's roots in one cut). By AI agents, Wed Nov 11 2026. No macro, syntax, notation, axiom, sorry.
-/
import Derived.Test.YbulkejvcChecked
import GoSem.Claim
import GoSem.ClaimJoined
import GoSem.ClaimMapViews
import Derived.JoinedTies
import Derived.KernelRfl
namespace Go.Proofs.Ybulkejvc
/- THE CELL 'sum', in the pinned program and in every row, IS THE sha256 OF THE DUMP (.gsa) THAT YbulkejvcProg.lean LOADS. Nothing in Lean hashes anything: it is a label: what it is worth is what the hold of that sum in a sandbox is worth. -/
noncomputable def Yba.pinned : Pinned := { name := "ybulkejvc", sum := "79c5a16a528aeabd75f243a7220720556b7c164cd1a282f8dacc90e84d55a961", checked := Yba.checked }
namespace Rows
def none {H : Type} : Left H := { results := [], args := [] }

/-- 'rolewright.LawS6801BWhole': WHATEVER THE INPUT: true; the input reads as it did. -/
def lawS6801BWholeSpec : ChangeSpec := { name := "lawS6801BWhole", fn := fun _ => fun
  | [d] => { results := [.lit (.bool true)], args := [d] }
  | _ => none }
def lawS6801BWholeRow : OpenClaim := { program := "ybulkejvc", sum := "79c5a16a528aeabd75f243a7220720556b7c164cd1a282f8dacc90e84d55a961", func := "example.com/rolewright/rolewright.LawS6801BWhole", spec := "lawS6801BWhole", apart := false }
def LawS6801BWholeSaid : Prop := lawS6801BWholeRow.holds Yba.pinned (OpenSpec.ofChange lawS6801BWholeSpec)

/-- ITS FALSE NEIGHBOUR: 'it returns false'. Refute it at one input. -/
def lawS6801BWholeWrong : ChangeSpec := { name := "lawS6801BWhole", fn := fun _ => fun
  | [d] => { results := [.lit (.bool false)], args := [d] }
  | _ => none }
def LawS6801BWholeWrongFalsely : Prop := lawS6801BWholeRow.holds Yba.pinned (OpenSpec.ofChange lawS6801BWholeWrong)

end Rows
end Go.Proofs.Ybulkejvc
