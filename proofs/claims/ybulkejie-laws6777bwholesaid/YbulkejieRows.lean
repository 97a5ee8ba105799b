/-
  No cell of these rows narrows 'for every input' (looked for: loops, veiled, ifaces, maps, wideKeys, modest, calm, conditions, laid).
  DERIVED. THE GIVEN ROWS OF THIS SEAT. 1 by the template 'for every input the law returns true; each argument reads behind the call as it read before'; 0 by the template 'total and deterministic' (their statements: YbulkejieTotals.lean).
  GIVEN WITH THE SEED: the statements are not yours to turn. If you find one false, say at which input.
  Laid BY PROGRAM, IN A SANDBOX (cutbox-rows.mjs): the forced cells as the released guide's own fill.sh prints them over the translation cf22db2ca268fe4a… (all of the seat's roots in one cut). By AI agents, Wed Nov 11 2026. No macro, syntax, notation, axiom, sorry.
-/
import Derived.Test.YbulkejieChecked
import GoSem.Claim
import GoSem.ClaimJoined
import GoSem.ClaimMapViews
import Derived.JoinedTies
import Derived.KernelRfl
namespace Go.Proofs.Ybulkejie
/- THE CELL 'sum', in the pinned program and in every row, IS THE sha256 OF THE DUMP (.gsa) THAT YbulkejieProg.lean LOADS. Nothing in Lean hashes anything: it is a label: what it is worth is what the hold of that sum in a sandbox is worth. -/
noncomputable def Yba.pinned : Pinned := { name := "ybulkejie", sum := "cf22db2ca268fe4a76fb4c3c42d98cb5c0cb7787bf340479b75cd5f183e159ed", checked := Yba.checked }
namespace Rows
def none {H : Type} : Left H := { results := [], args := [] }

/-- 'api.LawS6777BWhole': WHATEVER THE INPUT: true; the input reads as it did. -/
def lawS6777BWholeSpec : ChangeSpec := { name := "lawS6777BWhole", fn := fun _ => fun
  | [d] => { results := [.lit (.bool true)], args := [d] }
  | _ => none }
def lawS6777BWholeRow : OpenClaim := { program := "ybulkejie", sum := "cf22db2ca268fe4a76fb4c3c42d98cb5c0cb7787bf340479b75cd5f183e159ed", func := "example.com/concordat/concordat/internal/api.LawS6777BWhole", spec := "lawS6777BWhole", apart := false }
def LawS6777BWholeSaid : Prop := lawS6777BWholeRow.holds Yba.pinned (OpenSpec.ofChange lawS6777BWholeSpec)

/-- ITS FALSE NEIGHBOUR: 'it returns false'. Refute it at one input. -/
def lawS6777BWholeWrong : ChangeSpec := { name := "lawS6777BWhole", fn := fun _ => fun
  | [d] => { results := [.lit (.bool false)], args := [d] }
  | _ => none }
def LawS6777BWholeWrongFalsely : Prop := lawS6777BWholeRow.holds Yba.pinned (OpenSpec.ofChange lawS6777BWholeWrong)

end Rows
end Go.Proofs.Ybulkejie
