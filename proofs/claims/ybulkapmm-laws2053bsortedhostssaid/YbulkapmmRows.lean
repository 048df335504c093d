/-
  No cell of these rows narrows 'for every input' (looked for: loops, veiled, ifaces, maps, wideKeys, modest, calm, conditions, laid).
  DERIVED. THE GIVEN ROWS OF THIS SEAT. 2 by the template 'for every input the law returns true; each argument reads behind the call as it read before'; 0 by the template 'total and deterministic' (their statements: YbulkapmmTotals.lean).
  GIVEN WITH THE SEED: the statements are not yours to turn. If you find one false, say at which input.
  Laid BY PROGRAM, IN A SANDBOX (cutbox-rows.mjs): the forced cells as the released guide's own fill.sh prints them over the translation 43bcc7148cd9fb83… (all of the seat's roots in one cut). By AI agents, Wed Nov 11 2026. No macro, syntax, notation, axiom, sorry.
-/
import Derived.Test.YbulkapmmChecked
import GoSem.Claim
import GoSem.ClaimJoined
import GoSem.ClaimMapViews
import Derived.JoinedTies
import Derived.KernelRfl
namespace Go.Proofs.Ybulkapmm
/- THE CELL 'sum', in the pinned program and in every row, IS THE sha256 OF THE DUMP (.gsa) THAT YbulkapmmProg.lean LOADS. Nothing in Lean hashes anything: it is a label: what it is worth is what the hold of that sum in a sandbox is worth. -/
noncomputable def Yba.pinned : Pinned := { name := "ybulkapmm", sum := "43bcc7148cd9fb8325ec341f1ef9c7441384a8101699e998c95d50e7847fc8a0", checked := Yba.checked }
namespace Rows
def none {H : Type} : Left H := { results := [], args := [] }

/-- 'node.LawS2053AModel': WHATEVER THE INPUT: true; the input reads as it did. -/
def lawS2053AModelSpec : ChangeSpec := { name := "lawS2053AModel", fn := fun _ => fun
  | [d1, d2, d3, d4] => { results := [.lit (.bool true)], args := [d1, d2, d3, d4] }
  | _ => none }
def lawS2053AModelRow : OpenClaim := { program := "ybulkapmm", sum := "43bcc7148cd9fb8325ec341f1ef9c7441384a8101699e998c95d50e7847fc8a0", func := "example.com/quorate/quorate/internal/node.LawS2053AModel", spec := "lawS2053AModel", apart := false }
def LawS2053AModelSaid : Prop := lawS2053AModelRow.holds Yba.pinned (OpenSpec.ofChange lawS2053AModelSpec)

/-- ITS FALSE NEIGHBOUR: 'it returns false'. Refute it at one input. -/
def lawS2053AModelWrong : ChangeSpec := { name := "lawS2053AModel", fn := fun _ => fun
  | [d1, d2, d3, d4] => { results := [.lit (.bool false)], args := [d1, d2, d3, d4] }
  | _ => none }
def LawS2053AModelWrongFalsely : Prop := lawS2053AModelRow.holds Yba.pinned (OpenSpec.ofChange lawS2053AModelWrong)

/-- 'collector.LawS2053BSortedHosts': WHATEVER THE INPUT: true; the input reads as it did. -/
def lawS2053BSortedHostsSpec : ChangeSpec := { name := "lawS2053BSortedHosts", fn := fun _ => fun
  | [d1, d2, d3] => { results := [.lit (.bool true)], args := [d1, d2, d3] }
  | _ => none }
def lawS2053BSortedHostsRow : OpenClaim := { program := "ybulkapmm", sum := "43bcc7148cd9fb8325ec341f1ef9c7441384a8101699e998c95d50e7847fc8a0", func := "example.com/quorate/quorate/internal/collector.LawS2053BSortedHosts", spec := "lawS2053BSortedHosts", unfollowed := true, recurses := true, apart := false }
def LawS2053BSortedHostsSaid : Prop := lawS2053BSortedHostsRow.holds Yba.pinned (OpenSpec.ofChange lawS2053BSortedHostsSpec)

/-- ITS FALSE NEIGHBOUR: 'it returns false'. Refute it at one input. -/
def lawS2053BSortedHostsWrong : ChangeSpec := { name := "lawS2053BSortedHosts", fn := fun _ => fun
  | [d1, d2, d3] => { results := [.lit (.bool false)], args := [d1, d2, d3] }
  | _ => none }
def LawS2053BSortedHostsWrongFalsely : Prop := lawS2053BSortedHostsRow.holds Yba.pinned (OpenSpec.ofChange lawS2053BSortedHostsWrong)

end Rows
end Go.Proofs.Ybulkapmm
