/-
  No cell of these rows narrows 'for every input' (looked for: loops, veiled, ifaces, maps, wideKeys, modest, calm, conditions, laid).
  DERIVED. THE GIVEN ROWS OF THIS SEAT. 2 by the template 'for every input the law returns true; each argument reads behind the call as it read before'; 0 by the template 'total and deterministic' (their statements: YbulkejwsTotals.lean).
  GIVEN WITH THE SEED: the statements are not yours to turn. If you find one false, say at which input.
  Laid BY PROGRAM, IN A SANDBOX (cutbox-rows.mjs): the forced cells as the released guide's own fill.sh prints them over the translation 2f1788e8d158c0b5… (all of the seat's roots in one cut). By AI agents, Wed Nov 11 2026. No macro, syntax, notation, axiom, sorry.
-/
import Derived.Test.YbulkejwsChecked
import GoSem.Claim
import GoSem.ClaimJoined
import GoSem.ClaimMapViews
import Derived.JoinedTies
import Derived.KernelRfl
namespace Go.Proofs.Ybulkejws
/- THE CELL 'sum', in the pinned program and in every row, IS THE sha256 OF THE DUMP (.gsa) THAT YbulkejwsProg.lean LOADS. Nothing in Lean hashes anything: it is a label: what it is worth is what the hold of that sum in a sandbox is worth. -/
noncomputable def Yba.pinned : Pinned := { name := "ybulkejws", sum := "2f1788e8d158c0b5068f3c0829526525fb1415fd2e0ca9b5ecc5beae5ca6de55", checked := Yba.checked }
namespace Rows
def none {H : Type} : Left H := { results := [], args := [] }

/-- 'truechimer.LawS6804AWhole': WHATEVER THE INPUT: true; the input reads as it did. -/
def lawS6804AWholeSpec : ChangeSpec := { name := "lawS6804AWhole", fn := fun _ => fun
  | [d] => { results := [.lit (.bool true)], args := [d] }
  | _ => none }
def lawS6804AWholeRow : OpenClaim := { program := "ybulkejws", sum := "2f1788e8d158c0b5068f3c0829526525fb1415fd2e0ca9b5ecc5beae5ca6de55", func := "example.com/truechimer/truechimer.LawS6804AWhole", spec := "lawS6804AWhole", apart := false }
def LawS6804AWholeSaid : Prop := lawS6804AWholeRow.holds Yba.pinned (OpenSpec.ofChange lawS6804AWholeSpec)

/-- ITS FALSE NEIGHBOUR: 'it returns false'. Refute it at one input. -/
def lawS6804AWholeWrong : ChangeSpec := { name := "lawS6804AWhole", fn := fun _ => fun
  | [d] => { results := [.lit (.bool false)], args := [d] }
  | _ => none }
def LawS6804AWholeWrongFalsely : Prop := lawS6804AWholeRow.holds Yba.pinned (OpenSpec.ofChange lawS6804AWholeWrong)

/-- 'truechimer.LawS6804CWhole': WHATEVER THE INPUT: true; the input reads as it did. -/
def lawS6804CWholeSpec : ChangeSpec := { name := "lawS6804CWhole", fn := fun _ => fun
  | [d1, d2, d3, d4, d5, d6, d7, d8, d9, d10, d11] => { results := [.lit (.bool true)], args := [d1, d2, d3, d4, d5, d6, d7, d8, d9, d10, d11] }
  | _ => none }
def lawS6804CWholeRow : OpenClaim := { program := "ybulkejws", sum := "2f1788e8d158c0b5068f3c0829526525fb1415fd2e0ca9b5ecc5beae5ca6de55", func := "example.com/truechimer/truechimer.LawS6804CWhole", spec := "lawS6804CWhole", apart := false }
def LawS6804CWholeSaid : Prop := lawS6804CWholeRow.holds Yba.pinned (OpenSpec.ofChange lawS6804CWholeSpec)

/-- ITS FALSE NEIGHBOUR: 'it returns false'. Refute it at one input. -/
def lawS6804CWholeWrong : ChangeSpec := { name := "lawS6804CWhole", fn := fun _ => fun
  | [d1, d2, d3, d4, d5, d6, d7, d8, d9, d10, d11] => { results := [.lit (.bool false)], args := [d1, d2, d3, d4, d5, d6, d7, d8, d9, d10, d11] }
  | _ => none }
def LawS6804CWholeWrongFalsely : Prop := lawS6804CWholeRow.holds Yba.pinned (OpenSpec.ofChange lawS6804CWholeWrong)

end Rows
end Go.Proofs.Ybulkejws
