/-
  No cell of these rows narrows 'for every input' (looked for: loops, veiled, ifaces, maps, wideKeys, modest, calm, conditions, laid).
  DERIVED. THE GIVEN ROWS OF THIS SEAT. 3 by the template 'for every input the law returns true; each argument reads behind the call as it read before'; 0 by the template 'total and deterministic' (their statements: YbulkapkwTotals.lean).
  GIVEN WITH THE SEED: the statements are not yours to turn. If you find one false, say at which input.
  Laid BY PROGRAM, IN A SANDBOX (cutbox-rows.mjs): the forced cells as the released guide's own fill.sh prints them over the translation 46b611fc7c4717bb… (all of the seat's roots in one cut). By AI agents, Wed Nov 11 2026. No macro, syntax, notation, axiom, sorry.
-/
import Derived.Test.YbulkapkwChecked
import GoSem.Claim
import GoSem.ClaimJoined
import GoSem.ClaimMapViews
import Derived.JoinedTies
import Derived.KernelRfl
namespace Go.Proofs.Ybulkapkw
/- THE CELL 'sum', in the pinned program and in every row, IS THE sha256 OF THE DUMP (.gsa) THAT YbulkapkwProg.lean LOADS. Nothing in Lean hashes anything: it is a label: what it is worth is what the hold of that sum in a sandbox is worth. -/
noncomputable def Yba.pinned : Pinned := { name := "ybulkapkw", sum := "46b611fc7c4717bb186faa42158b0619a81f726c29997e3e61d8df21685e0774", checked := Yba.checked }
namespace Rows
def none {H : Type} : Left H := { results := [], args := [] }

/-- 'telemetry.LawS2050AAwait': WHATEVER THE INPUT: true; the input reads as it did. -/
def lawS2050AAwaitSpec : ChangeSpec := { name := "lawS2050AAwait", fn := fun _ => fun
  | [d] => { results := [.lit (.bool true)], args := [d] }
  | _ => none }
def lawS2050AAwaitRow : OpenClaim := { program := "ybulkapkw", sum := "46b611fc7c4717bb186faa42158b0619a81f726c29997e3e61d8df21685e0774", func := "example.com/wickstream/wickstream/pkg/telemetry.LawS2050AAwait", spec := "lawS2050AAwait", inPlace := ["(*internal/sync.Mutex).Lock", "internal/race.Disable", "sync/atomic.CompareAndSwapInt32", "internal/race.Enable", "internal/race.Acquire", "(*internal/sync.Mutex).lockSlow", "internal/sync.runtime_canSpin", "internal/sync.runtime_doSpin", "internal/sync.throw", "internal/sync.runtime_nanotime", "internal/sync.runtime_SemacquireMutex", "sync/atomic.AddInt32", "(*internal/sync.Mutex).Unlock", "internal/race.ReleaseMerge", "(*internal/sync.Mutex).unlockSlow", "internal/sync.fatal", "internal/sync.runtime_Semrelease"], unfollowed := true, recurses := true, apart := false }
def LawS2050AAwaitSaid : Prop := lawS2050AAwaitRow.holds Yba.pinned (OpenSpec.ofChange lawS2050AAwaitSpec)

/-- ITS FALSE NEIGHBOUR: 'it returns false'. Refute it at one input. -/
def lawS2050AAwaitWrong : ChangeSpec := { name := "lawS2050AAwait", fn := fun _ => fun
  | [d] => { results := [.lit (.bool false)], args := [d] }
  | _ => none }
def LawS2050AAwaitWrongFalsely : Prop := lawS2050AAwaitRow.holds Yba.pinned (OpenSpec.ofChange lawS2050AAwaitWrong)

/-- 'config.LawS2050CModel': WHATEVER THE INPUT: true; the input reads as it did. -/
def lawS2050CModelSpec : ChangeSpec := { name := "lawS2050CModel", fn := fun _ => fun
  | [d] => { results := [.lit (.bool true)], args := [d] }
  | _ => none }
def lawS2050CModelRow : OpenClaim := { program := "ybulkapkw", sum := "46b611fc7c4717bb186faa42158b0619a81f726c29997e3e61d8df21685e0774", func := "example.com/wickstream/wickstream/pkg/config.LawS2050CModel", spec := "lawS2050CModel", inPlace := ["internal/bytealg.IndexByteString", "internal/bytealg.IndexString"], unfollowed := true, recurses := true, named := ["internal/bytealg.MaxLen"], apart := false }
def LawS2050CModelSaid : Prop := lawS2050CModelRow.holds Yba.pinned (OpenSpec.ofChange lawS2050CModelSpec)

/-- ITS FALSE NEIGHBOUR: 'it returns false'. Refute it at one input. -/
def lawS2050CModelWrong : ChangeSpec := { name := "lawS2050CModel", fn := fun _ => fun
  | [d] => { results := [.lit (.bool false)], args := [d] }
  | _ => none }
def LawS2050CModelWrongFalsely : Prop := lawS2050CModelRow.holds Yba.pinned (OpenSpec.ofChange lawS2050CModelWrong)

/-- 'config.LawS2050CBuilt': WHATEVER THE INPUT: true; the input reads as it did. -/
def lawS2050CBuiltSpec : ChangeSpec := { name := "lawS2050CBuilt", fn := fun _ => fun
  | [d1, d2, d3] => { results := [.lit (.bool true)], args := [d1, d2, d3] }
  | _ => none }
def lawS2050CBuiltRow : OpenClaim := { program := "ybulkapkw", sum := "46b611fc7c4717bb186faa42158b0619a81f726c29997e3e61d8df21685e0774", func := "example.com/wickstream/wickstream/pkg/config.LawS2050CBuilt", spec := "lawS2050CBuilt", inPlace := ["internal/bytealg.IndexByteString", "internal/bytealg.IndexString"], unfollowed := true, recurses := true, named := ["internal/bytealg.MaxLen"], apart := false }
def LawS2050CBuiltSaid : Prop := lawS2050CBuiltRow.holds Yba.pinned (OpenSpec.ofChange lawS2050CBuiltSpec)

/-- ITS FALSE NEIGHBOUR: 'it returns false'. Refute it at one input. -/
def lawS2050CBuiltWrong : ChangeSpec := { name := "lawS2050CBuilt", fn := fun _ => fun
  | [d1, d2, d3] => { results := [.lit (.bool false)], args := [d1, d2, d3] }
  | _ => none }
def LawS2050CBuiltWrongFalsely : Prop := lawS2050CBuiltRow.holds Yba.pinned (OpenSpec.ofChange lawS2050CBuiltWrong)

end Rows
end Go.Proofs.Ybulkapkw
