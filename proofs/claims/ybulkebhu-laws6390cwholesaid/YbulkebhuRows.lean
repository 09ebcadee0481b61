/-
  No cell of these rows narrows 'for every input' (looked for: loops, veiled, ifaces, maps, wideKeys, modest, calm, conditions, laid).
  DERIVED. THE GIVEN ROWS OF THIS SEAT. 1 by the template 'for every input the law returns true; each argument reads behind the call as it read before'; 0 by the template 'total and deterministic' (their statements: YbulkebhuTotals.lean).
  GIVEN WITH THE SEED: the statements are not yours to turn. If you find one false, say at which input.
  Laid BY PROGRAM, IN A SANDBOX (cutbox-rows.mjs): the forced cells as the released guide's own fill.sh prints them over the translation 7ead92226912d6d1… (all of the seat's roots in one cut). By AI agents, Wed Nov 11 2026. No macro, syntax, notation, axiom, sorry.
-/
import Derived.Test.YbulkebhuChecked
import GoSem.Claim
import GoSem.ClaimJoined
import GoSem.ClaimMapViews
import Derived.JoinedTies
import Derived.KernelRfl
namespace Go.Proofs.Ybulkebhu
/- THE CELL 'sum', in the pinned program and in every row, IS THE sha256 OF THE DUMP (.gsa) THAT YbulkebhuProg.lean LOADS. Nothing in Lean hashes anything: it is a label: what it is worth is what the hold of that sum in a sandbox is worth. -/
noncomputable def Yba.pinned : Pinned := { name := "ybulkebhu", sum := "7ead92226912d6d13730d7095d864b0ae29bae50218a5333932e24f0ac3139bf", checked := Yba.checked }
namespace Rows
def none {H : Type} : Left H := { results := [], args := [] }

/-- 'raft.LawS6390CWhole': WHATEVER THE INPUT: true; the input reads as it did. -/
def lawS6390CWholeSpec : ChangeSpec := { name := "lawS6390CWhole", fn := fun _ => fun
  | [d1, d2, d3, d4, d5, d6, d7] => { results := [.lit (.bool true)], args := [d1, d2, d3, d4, d5, d6, d7] }
  | _ => none }
def lawS6390CWholeRow : OpenClaim := { program := "ybulkebhu", sum := "7ead92226912d6d13730d7095d864b0ae29bae50218a5333932e24f0ac3139bf", func := "example.com/coterie/coterie/internal/node/raft.LawS6390CWhole", spec := "lawS6390CWhole", unfollowed := true, recurses := true, apart := false }
def LawS6390CWholeSaid : Prop := lawS6390CWholeRow.holds Yba.pinned (OpenSpec.ofChange lawS6390CWholeSpec)

/-- ITS FALSE NEIGHBOUR: 'it returns false'. Refute it at one input. -/
def lawS6390CWholeWrong : ChangeSpec := { name := "lawS6390CWhole", fn := fun _ => fun
  | [d1, d2, d3, d4, d5, d6, d7] => { results := [.lit (.bool false)], args := [d1, d2, d3, d4, d5, d6, d7] }
  | _ => none }
def LawS6390CWholeWrongFalsely : Prop := lawS6390CWholeRow.holds Yba.pinned (OpenSpec.ofChange lawS6390CWholeWrong)

end Rows
end Go.Proofs.Ybulkebhu
