/-
  No cell of these rows narrows 'for every input' (looked for: loops, veiled, ifaces, maps, wideKeys, modest, calm, conditions, laid).
  DERIVED. THE GIVEN ROWS OF THIS SEAT. 2 by the template 'for every input the law returns true; each argument reads behind the call as it read before'; 0 by the template 'total and deterministic' (their statements: YbulkebiwTotals.lean).
  GIVEN WITH THE SEED: the statements are not yours to turn. If you find one false, say at which input.
  Laid BY PROGRAM, IN A SANDBOX (cutbox-rows.mjs): the forced cells as the released guide's own fill.sh prints them over the translation 24dddd312cf6d8f9… (all of the seat's roots in one cut). By AI agents, Wed Nov 11 2026. No macro, syntax, notation, axiom, sorry.
-/
import Derived.Test.YbulkebiwChecked
import GoSem.Claim
import GoSem.ClaimJoined
import GoSem.ClaimMapViews
import Derived.JoinedTies
import Derived.KernelRfl
namespace Go.Proofs.Ybulkebiw
/- THE CELL 'sum', in the pinned program and in every row, IS THE sha256 OF THE DUMP (.gsa) THAT YbulkebiwProg.lean LOADS. Nothing in Lean hashes anything: it is a label: what it is worth is what the hold of that sum in a sandbox is worth. -/
noncomputable def Yba.pinned : Pinned := { name := "ybulkebiw", sum := "24dddd312cf6d8f92d3d4c634791b4196d85b4b464873c5902a03c64c24109dd", checked := Yba.checked }
namespace Rows
def none {H : Type} : Left H := { results := [], args := [] }

/-- 'bralog.LawS6392AWhole': WHATEVER THE INPUT: true; the input reads as it did. -/
def lawS6392AWholeSpec : ChangeSpec := { name := "lawS6392AWhole", fn := fun _ => fun
  | [d1, d2, d3, d4, d5] => { results := [.lit (.bool true)], args := [d1, d2, d3, d4, d5] }
  | _ => none }
def lawS6392AWholeRow : OpenClaim := { program := "ybulkebiw", sum := "24dddd312cf6d8f92d3d4c634791b4196d85b4b464873c5902a03c64c24109dd", func := "example.com/bralog/bralog.LawS6392AWhole", spec := "lawS6392AWhole", apart := false }
def LawS6392AWholeSaid : Prop := lawS6392AWholeRow.holds Yba.pinned (OpenSpec.ofChange lawS6392AWholeSpec)

/-- ITS FALSE NEIGHBOUR: 'it returns false'. Refute it at one input. -/
def lawS6392AWholeWrong : ChangeSpec := { name := "lawS6392AWhole", fn := fun _ => fun
  | [d1, d2, d3, d4, d5] => { results := [.lit (.bool false)], args := [d1, d2, d3, d4, d5] }
  | _ => none }
def LawS6392AWholeWrongFalsely : Prop := lawS6392AWholeRow.holds Yba.pinned (OpenSpec.ofChange lawS6392AWholeWrong)

/-- 'bralog.LawS6392BWhole': WHATEVER THE INPUT: true; the input reads as it did. -/
def lawS6392BWholeSpec : ChangeSpec := { name := "lawS6392BWhole", fn := fun _ => fun
  | [d1, d2, d3] => { results := [.lit (.bool true)], args := [d1, d2, d3] }
  | _ => none }
def lawS6392BWholeRow : OpenClaim := { program := "ybulkebiw", sum := "24dddd312cf6d8f92d3d4c634791b4196d85b4b464873c5902a03c64c24109dd", func := "example.com/bralog/bralog.LawS6392BWhole", spec := "lawS6392BWhole", apart := false }
def LawS6392BWholeSaid : Prop := lawS6392BWholeRow.holds Yba.pinned (OpenSpec.ofChange lawS6392BWholeSpec)

/-- ITS FALSE NEIGHBOUR: 'it returns false'. Refute it at one input. -/
def lawS6392BWholeWrong : ChangeSpec := { name := "lawS6392BWhole", fn := fun _ => fun
  | [d1, d2, d3] => { results := [.lit (.bool false)], args := [d1, d2, d3] }
  | _ => none }
def LawS6392BWholeWrongFalsely : Prop := lawS6392BWholeRow.holds Yba.pinned (OpenSpec.ofChange lawS6392BWholeWrong)

end Rows
end Go.Proofs.Ybulkebiw
