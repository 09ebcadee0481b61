/-
  No cell of these rows narrows 'for every input' (looked for: loops, veiled, ifaces, maps, wideKeys, modest, calm, conditions, laid).
  DERIVED. THE GIVEN ROWS OF THIS SEAT. 1 by the template 'for every input the law returns true; each argument reads behind the call as it read before'; 0 by the template 'total and deterministic' (their statements: YbulkebjkTotals.lean).
  GIVEN WITH THE SEED: the statements are not yours to turn. If you find one false, say at which input.
  Laid BY PROGRAM, IN A SANDBOX (cutbox-rows.mjs): the forced cells as the released guide's own fill.sh prints them over the translation b3b67a3a95995ed2… (all of the seat's roots in one cut). By AI agents, Wed Nov 11 2026. No macro, syntax, notation, axiom, sorry.
-/
import Derived.Test.YbulkebjkChecked
import GoSem.Claim
import GoSem.ClaimJoined
import GoSem.ClaimMapViews
import Derived.JoinedTies
import Derived.KernelRfl
namespace Go.Proofs.Ybulkebjk
/- THE CELL 'sum', in the pinned program and in every row, IS THE sha256 OF THE DUMP (.gsa) THAT YbulkebjkProg.lean LOADS. Nothing in Lean hashes anything: it is a label: what it is worth is what the hold of that sum in a sandbox is worth. -/
noncomputable def Yba.pinned : Pinned := { name := "ybulkebjk", sum := "b3b67a3a95995ed2160d2941fdb2145f1ecbcb5b7fb91a4dad51f2410cc408c8", checked := Yba.checked }
namespace Rows
def none {H : Type} : Left H := { results := [], args := [] }

/-- 'palimpsest.LawS6393AWhole': WHATEVER THE INPUT: true; the input reads as it did. -/
def lawS6393AWholeSpec : ChangeSpec := { name := "lawS6393AWhole", fn := fun _ => fun
  | [d1, d2] => { results := [.lit (.bool true)], args := [d1, d2] }
  | _ => none }
def lawS6393AWholeRow : OpenClaim := { program := "ybulkebjk", sum := "b3b67a3a95995ed2160d2941fdb2145f1ecbcb5b7fb91a4dad51f2410cc408c8", func := "example.com/palimpsest/palimpsest.LawS6393AWhole", spec := "lawS6393AWhole", plainKeys := false, apart := false }
def LawS6393AWholeSaid : Prop := lawS6393AWholeRow.holds Yba.pinned (OpenSpec.ofChange lawS6393AWholeSpec)

/-- ITS FALSE NEIGHBOUR: 'it returns false'. Refute it at one input. -/
def lawS6393AWholeWrong : ChangeSpec := { name := "lawS6393AWhole", fn := fun _ => fun
  | [d1, d2] => { results := [.lit (.bool false)], args := [d1, d2] }
  | _ => none }
def LawS6393AWholeWrongFalsely : Prop := lawS6393AWholeRow.holds Yba.pinned (OpenSpec.ofChange lawS6393AWholeWrong)

end Rows
end Go.Proofs.Ybulkebjk
