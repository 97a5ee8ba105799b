/-
  No cell of these rows narrows 'for every input' (looked for: loops, veiled, ifaces, maps, wideKeys, modest, calm, conditions, laid).
  DERIVED. THE GIVEN ROWS OF THIS SEAT. 1 by the template 'for every input the law returns true; each argument reads behind the call as it read before'; 0 by the template 'total and deterministic' (their statements: YbulkejjuTotals.lean).
  GIVEN WITH THE SEED: the statements are not yours to turn. If you find one false, say at which input.
  Laid BY PROGRAM, IN A SANDBOX (cutbox-rows.mjs): the forced cells as the released guide's own fill.sh prints them over the translation aca23262bc230ba0… (all of the seat's roots in one cut). By AI agents, Wed Nov 11 2026. No macro, syntax, notation, axiom, sorry.
-/
import Derived.Test.YbulkejjuChecked
import GoSem.Claim
import GoSem.ClaimJoined
import GoSem.ClaimMapViews
import Derived.JoinedTies
import Derived.KernelRfl
namespace Go.Proofs.Ybulkejju
/- THE CELL 'sum', in the pinned program and in every row, IS THE sha256 OF THE DUMP (.gsa) THAT YbulkejjuProg.lean LOADS. Nothing in Lean hashes anything: it is a label: what it is worth is what the hold of that sum in a sandbox is worth. -/
noncomputable def Yba.pinned : Pinned := { name := "ybulkejju", sum := "aca23262bc230ba0ecfbc6c373c38ddb95e85792d839aba75911e9ccdead07cf", checked := Yba.checked }
namespace Rows
def none {H : Type} : Left H := { results := [], args := [] }

/-- 'filter.LawS6780BWhole': WHATEVER THE INPUT: true; the input reads as it did. -/
def lawS6780BWholeSpec : ChangeSpec := { name := "lawS6780BWhole", fn := fun _ => fun
  | [d1, d2] => { results := [.lit (.bool true)], args := [d1, d2] }
  | _ => none }
def lawS6780BWholeRow : OpenClaim := { program := "ybulkejju", sum := "aca23262bc230ba0ecfbc6c373c38ddb95e85792d839aba75911e9ccdead07cf", func := "example.com/tamis/tamis/internal/filter.LawS6780BWhole", spec := "lawS6780BWhole", apart := false }
def LawS6780BWholeSaid : Prop := lawS6780BWholeRow.holds Yba.pinned (OpenSpec.ofChange lawS6780BWholeSpec)

/-- ITS FALSE NEIGHBOUR: 'it returns false'. Refute it at one input. -/
def lawS6780BWholeWrong : ChangeSpec := { name := "lawS6780BWhole", fn := fun _ => fun
  | [d1, d2] => { results := [.lit (.bool false)], args := [d1, d2] }
  | _ => none }
def LawS6780BWholeWrongFalsely : Prop := lawS6780BWholeRow.holds Yba.pinned (OpenSpec.ofChange lawS6780BWholeWrong)

end Rows
end Go.Proofs.Ybulkejju
