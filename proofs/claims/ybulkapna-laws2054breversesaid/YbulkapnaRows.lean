/-
  No cell of these rows narrows 'for every input' (looked for: loops, veiled, ifaces, maps, wideKeys, modest, calm, conditions, laid).
  DERIVED. THE GIVEN ROWS OF THIS SEAT. 2 by the template 'for every input the law returns true; each argument reads behind the call as it read before'; 0 by the template 'total and deterministic' (their statements: YbulkapnaTotals.lean).
  GIVEN WITH THE SEED: the statements are not yours to turn. If you find one false, say at which input.
  Laid BY PROGRAM, IN A SANDBOX (cutbox-rows.mjs): the forced cells as the released guide's own fill.sh prints them over the translation 73f48f51da17874a… (all of the seat's roots in one cut). By AI agents, Wed Nov 11 2026. No macro, syntax, notation, axiom, sorry.
-/
import Derived.Test.YbulkapnaChecked
import GoSem.Claim
import GoSem.ClaimJoined
import GoSem.ClaimMapViews
import Derived.JoinedTies
import Derived.KernelRfl
namespace Go.Proofs.Ybulkapna
/- THE CELL 'sum', in the pinned program and in every row, IS THE sha256 OF THE DUMP (.gsa) THAT YbulkapnaProg.lean LOADS. Nothing in Lean hashes anything: it is a label: what it is worth is what the hold of that sum in a sandbox is worth. -/
noncomputable def Yba.pinned : Pinned := { name := "ybulkapna", sum := "73f48f51da17874ae1f3fffc1820dc75ca3d6a8a83bab53d6934d9f8776fe8e5", checked := Yba.checked }
namespace Rows
def none {H : Type} : Left H := { results := [], args := [] }

/-- 'parallel.LawS2054BOrder': WHATEVER THE INPUT: true; the input reads as it did. -/
def lawS2054BOrderSpec : ChangeSpec := { name := "lawS2054BOrder", fn := fun _ => fun
  | [d1, d2] => { results := [.lit (.bool true)], args := [d1, d2] }
  | _ => none }
def lawS2054BOrderRow : OpenClaim := { program := "ybulkapna", sum := "73f48f51da17874ae1f3fffc1820dc75ca3d6a8a83bab53d6934d9f8776fe8e5", func := "waveloom.example/waveloom/internal/parallel.LawS2054BOrder", spec := "lawS2054BOrder", inPlace := ["sync/atomic.StoreUint32", "(*internal/sync.Mutex).TryLock", "internal/race.Disable", "internal/race.Enable", "sync/atomic.CompareAndSwapInt32", "internal/race.Acquire", "sync/atomic.LoadUint32", "(*internal/sync.Mutex).Unlock", "internal/race.ReleaseMerge", "sync/atomic.AddInt32", "(*internal/sync.Mutex).unlockSlow", "internal/sync.fatal", "internal/sync.runtime_Semrelease"], unfollowed := true, recurses := true, apart := false }
def LawS2054BOrderSaid : Prop := lawS2054BOrderRow.holds Yba.pinned (OpenSpec.ofChange lawS2054BOrderSpec)

/-- ITS FALSE NEIGHBOUR: 'it returns false'. Refute it at one input. -/
def lawS2054BOrderWrong : ChangeSpec := { name := "lawS2054BOrder", fn := fun _ => fun
  | [d1, d2] => { results := [.lit (.bool false)], args := [d1, d2] }
  | _ => none }
def LawS2054BOrderWrongFalsely : Prop := lawS2054BOrderRow.holds Yba.pinned (OpenSpec.ofChange lawS2054BOrderWrong)

/-- 'parallel.LawS2054BReverse': WHATEVER THE INPUT: true; the input reads as it did. -/
def lawS2054BReverseSpec : ChangeSpec := { name := "lawS2054BReverse", fn := fun _ => fun
  | [d] => { results := [.lit (.bool true)], args := [d] }
  | _ => none }
def lawS2054BReverseRow : OpenClaim := { program := "ybulkapna", sum := "73f48f51da17874ae1f3fffc1820dc75ca3d6a8a83bab53d6934d9f8776fe8e5", func := "waveloom.example/waveloom/internal/parallel.LawS2054BReverse", spec := "lawS2054BReverse", inPlace := ["sync/atomic.StoreUint32", "(*internal/sync.Mutex).TryLock", "internal/race.Disable", "internal/race.Enable", "sync/atomic.CompareAndSwapInt32", "internal/race.Acquire", "sync/atomic.LoadUint32", "(*internal/sync.Mutex).Unlock", "internal/race.ReleaseMerge", "sync/atomic.AddInt32", "(*internal/sync.Mutex).unlockSlow", "internal/sync.fatal", "internal/sync.runtime_Semrelease"], unfollowed := true, recurses := true, apart := false }
def LawS2054BReverseSaid : Prop := lawS2054BReverseRow.holds Yba.pinned (OpenSpec.ofChange lawS2054BReverseSpec)

/-- ITS FALSE NEIGHBOUR: 'it returns false'. Refute it at one input. -/
def lawS2054BReverseWrong : ChangeSpec := { name := "lawS2054BReverse", fn := fun _ => fun
  | [d] => { results := [.lit (.bool false)], args := [d] }
  | _ => none }
def LawS2054BReverseWrongFalsely : Prop := lawS2054BReverseRow.holds Yba.pinned (OpenSpec.ofChange lawS2054BReverseWrong)

end Rows
end Go.Proofs.Ybulkapna
