/-
  No cell of these rows narrows 'for every input' (looked for: loops, veiled, ifaces, maps, wideKeys, modest, calm, conditions, laid).
  DERIVED. THE GIVEN ROWS OF THIS SEAT. 3 by the template 'for every input the law returns true; each argument reads behind the call as it read before'; 0 by the template 'total and deterministic' (their statements: YbulkejkwTotals.lean).
  GIVEN WITH THE SEED: the statements are not yours to turn. If you find one false, say at which input.
  Laid BY PROGRAM, IN A SANDBOX (cutbox-rows.mjs): the forced cells as the released guide's own fill.sh prints them over the translation dfaa0df7223572e5… (all of the seat's roots in one cut). By AI agents, Wed Nov 11 2026. No macro, syntax, notation, axiom, sorry.
-/
import Derived.Test.YbulkejkwChecked
import GoSem.Claim
import GoSem.ClaimJoined
import GoSem.ClaimMapViews
import Derived.JoinedTies
import Derived.KernelRfl
namespace Go.Proofs.Ybulkejkw
/- THE CELL 'sum', in the pinned program and in every row, IS THE sha256 OF THE DUMP (.gsa) THAT YbulkejkwProg.lean LOADS. Nothing in Lean hashes anything: it is a label: what it is worth is what the hold of that sum in a sandbox is worth. -/
noncomputable def Yba.pinned : Pinned := { name := "ybulkejkw", sum := "dfaa0df7223572e58a09ac04cd5803652628cfbdbf2ee48a8f20cac6598b18c6", checked := Yba.checked }
namespace Rows
def none {H : Type} : Left H := { results := [], args := [] }

/-- 'rollcall.LawS6782AWhole': WHATEVER THE INPUT: true; the input reads as it did. -/
def lawS6782AWholeSpec : ChangeSpec := { name := "lawS6782AWhole", fn := fun _ => fun
  | [d1, d2] => { results := [.lit (.bool true)], args := [d1, d2] }
  | _ => none }
def lawS6782AWholeRow : OpenClaim := { program := "ybulkejkw", sum := "dfaa0df7223572e58a09ac04cd5803652628cfbdbf2ee48a8f20cac6598b18c6", func := "example.com/rollcall/rollcall.LawS6782AWhole", spec := "lawS6782AWhole", inPlace := ["sync/atomic.LoadPointer", "sync/atomic.CompareAndSwapPointer", "sync/atomic.LoadUint64", "(*internal/sync.Mutex).Lock", "internal/race.Disable", "sync/atomic.CompareAndSwapInt32", "internal/race.Enable", "internal/race.Acquire", "(*internal/sync.Mutex).lockSlow", "internal/sync.runtime_canSpin", "internal/sync.runtime_doSpin", "internal/sync.throw", "internal/sync.runtime_nanotime", "internal/sync.runtime_SemacquireMutex", "sync/atomic.AddInt32", "(*internal/sync.Mutex).Unlock", "internal/race.ReleaseMerge", "(*internal/sync.Mutex).unlockSlow", "internal/sync.fatal", "internal/sync.runtime_Semrelease", "sync/atomic.CompareAndSwapUint64", "runtime.Callers", "runtime.CallersFrames", "(*runtime.Frames).Next"], unfollowed := true, recurses := true, apart := false }
def LawS6782AWholeSaid : Prop := lawS6782AWholeRow.holds Yba.pinned (OpenSpec.ofChange lawS6782AWholeSpec)

/-- ITS FALSE NEIGHBOUR: 'it returns false'. Refute it at one input. -/
def lawS6782AWholeWrong : ChangeSpec := { name := "lawS6782AWhole", fn := fun _ => fun
  | [d1, d2] => { results := [.lit (.bool false)], args := [d1, d2] }
  | _ => none }
def LawS6782AWholeWrongFalsely : Prop := lawS6782AWholeRow.holds Yba.pinned (OpenSpec.ofChange lawS6782AWholeWrong)

/-- 'rollcall.LawS6782BWhole': WHATEVER THE INPUT: true; the input reads as it did. -/
def lawS6782BWholeSpec : ChangeSpec := { name := "lawS6782BWhole", fn := fun _ => fun
  | [d1, d2, d3, d4] => { results := [.lit (.bool true)], args := [d1, d2, d3, d4] }
  | _ => none }
def lawS6782BWholeRow : OpenClaim := { program := "ybulkejkw", sum := "dfaa0df7223572e58a09ac04cd5803652628cfbdbf2ee48a8f20cac6598b18c6", func := "example.com/rollcall/rollcall.LawS6782BWhole", spec := "lawS6782BWhole", apart := false }
def LawS6782BWholeSaid : Prop := lawS6782BWholeRow.holds Yba.pinned (OpenSpec.ofChange lawS6782BWholeSpec)

/-- ITS FALSE NEIGHBOUR: 'it returns false'. Refute it at one input. -/
def lawS6782BWholeWrong : ChangeSpec := { name := "lawS6782BWhole", fn := fun _ => fun
  | [d1, d2, d3, d4] => { results := [.lit (.bool false)], args := [d1, d2, d3, d4] }
  | _ => none }
def LawS6782BWholeWrongFalsely : Prop := lawS6782BWholeRow.holds Yba.pinned (OpenSpec.ofChange lawS6782BWholeWrong)

/-- 'rollcall.LawS6782CWhole': WHATEVER THE INPUT: true; the input reads as it did. -/
def lawS6782CWholeSpec : ChangeSpec := { name := "lawS6782CWhole", fn := fun _ => fun
  | [d1, d2, d3] => { results := [.lit (.bool true)], args := [d1, d2, d3] }
  | _ => none }
def lawS6782CWholeRow : OpenClaim := { program := "ybulkejkw", sum := "dfaa0df7223572e58a09ac04cd5803652628cfbdbf2ee48a8f20cac6598b18c6", func := "example.com/rollcall/rollcall.LawS6782CWhole", spec := "lawS6782CWhole", inPlace := ["sync/atomic.StoreUint64", "sync/atomic.StorePointer", "sync/atomic.CompareAndSwapPointer", "sync/atomic.LoadPointer", "sync/atomic.LoadUint64"], apart := false }
def LawS6782CWholeSaid : Prop := lawS6782CWholeRow.holds Yba.pinned (OpenSpec.ofChange lawS6782CWholeSpec)

/-- ITS FALSE NEIGHBOUR: 'it returns false'. Refute it at one input. -/
def lawS6782CWholeWrong : ChangeSpec := { name := "lawS6782CWhole", fn := fun _ => fun
  | [d1, d2, d3] => { results := [.lit (.bool false)], args := [d1, d2, d3] }
  | _ => none }
def LawS6782CWholeWrongFalsely : Prop := lawS6782CWholeRow.holds Yba.pinned (OpenSpec.ofChange lawS6782CWholeWrong)

end Rows
end Go.Proofs.Ybulkejkw
