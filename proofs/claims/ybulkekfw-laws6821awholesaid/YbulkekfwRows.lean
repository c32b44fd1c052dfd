/-
  No cell of these rows narrows 'for every input' (looked for: loops, veiled, ifaces, maps, wideKeys, modest, calm, conditions, laid).
  DERIVED. THE GIVEN ROWS OF THIS SEAT. 1 by the template 'for every input the law returns true; each argument reads behind the call as it read before'; 0 by the template 'total and deterministic' (their statements: YbulkekfwTotals.lean).
  GIVEN WITH THE SEED: the statements are not yours to turn. If you find one false, say at which input.
  Laid BY PROGRAM, IN A SANDBOX (cutbox-rows.mjs): the forced cells as the released guide's own fill.sh prints them over the translation 9db194312da5897b… (all of the seat's roots in one cut). By AI agents, Wed Nov 11 2026. No macro, syntax, notation, axiom, sorry.
-/
import Derived.Test.YbulkekfwChecked
import GoSem.Claim
import GoSem.ClaimJoined
import GoSem.ClaimMapViews
import Derived.JoinedTies
import Derived.KernelRfl
namespace Go.Proofs.Ybulkekfw
/- THE CELL 'sum', in the pinned program and in every row, IS THE sha256 OF THE DUMP (.gsa) THAT YbulkekfwProg.lean LOADS. Nothing in Lean hashes anything: it is a label: what it is worth is what the hold of that sum in a sandbox is worth. -/
noncomputable def Yba.pinned : Pinned := { name := "ybulkekfw", sum := "9db194312da5897b38e069465fdc9064168478e91dd2a8314b567a05bbafdbdb", checked := Yba.checked }
namespace Rows
def none {H : Type} : Left H := { results := [], args := [] }

/-- 'sip.LawS6821AWhole': WHATEVER THE INPUT: true; the input reads as it did. -/
def lawS6821AWholeSpec : ChangeSpec := { name := "lawS6821AWhole", fn := fun _ => fun
  | [d1, d2, d3, d4, d5, d6, d7, d8, d9, d10, d11] => { results := [.lit (.bool true)], args := [d1, d2, d3, d4, d5, d6, d7, d8, d9, d10, d11] }
  | _ => none }
def lawS6821AWholeRow : OpenClaim := { program := "ybulkekfw", sum := "9db194312da5897b38e069465fdc9064168478e91dd2a8314b567a05bbafdbdb", func := "example.com/callwright/callwright/internal/sip.LawS6821AWhole", spec := "lawS6821AWhole", apart := false }
def LawS6821AWholeSaid : Prop := lawS6821AWholeRow.holds Yba.pinned (OpenSpec.ofChange lawS6821AWholeSpec)

/-- ITS FALSE NEIGHBOUR: 'it returns false'. Refute it at one input. -/
def lawS6821AWholeWrong : ChangeSpec := { name := "lawS6821AWhole", fn := fun _ => fun
  | [d1, d2, d3, d4, d5, d6, d7, d8, d9, d10, d11] => { results := [.lit (.bool false)], args := [d1, d2, d3, d4, d5, d6, d7, d8, d9, d10, d11] }
  | _ => none }
def LawS6821AWholeWrongFalsely : Prop := lawS6821AWholeRow.holds Yba.pinned (OpenSpec.ofChange lawS6821AWholeWrong)

end Rows
end Go.Proofs.Ybulkekfw
