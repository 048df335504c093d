/-
  A select of two receives in one goroutine, no default: the first channel is open and empty, the second closed and empty: the second case is taken. As a law for the walk ('Code.wp' is stated over the machine's own steps).
-/
import Derived.Conc.LoneCalls
import Derived.Conc.LoneSelectN
import Derived.WalkKit
namespace Go.Proofs.Ybulkapkw
open Go Go.Conc

theorem stepG_comm_any {P : Program} {main : Bool} {b : Frame} {a : Act} {k : List Item} {cs : List Frame} {w : World} {ops : Array Oper} {i : Nat} {rest : List Nat} {o : Oper} {cases : Array CommCase} {blocking : Bool} {shape : CommShape} {w' : World}
    (ho : ops[i]? = some o) (hw : Region.wanted o (yielded ops a.tmps) = true) (hr : (execOp a.eval o).run P w = .ok (.comm cases blocking shape) w') :
    ∃ es, stepG P main (G (b.at a (.inRegion ops (i :: rest) :: k)) cs) w = .comm (G (b.at a (.inRegion ops (i :: rest) :: k)) cs) cases blocking shape w' es := by
  rw [stepG_oper ho hw]
  exact ⟨_, by simp [stepG.apply, hr, G, Frame.at, GStep.after]; rfl⟩

theorem res_rr1 (a b : Nat) (z z' v : Value) (ok : Bool) : commResult #[rcase a z, rcase b z'] .select ((1 : Nat) : Int) v ok = .tuple #[goInt 1, .bool ok, z, v] := by
  simp [commResult, rcase, List.zipIdx_cons]

theorem wp_sel_second {P : Program} {id : Nat} {o : Oper} {l : List Oper} {Q : Exit → Act → World → Prop} {a : Act} {w : World} (c0 c1 : Nat) (z0 z1 : Value) {cap0 s0 r0 cap1 s1 r1 : Nat} {tm0 tm1 : Bool}
    (hg : o.guard = none) (hrun : (execOp a.eval o).run P w = .ok (.comm #[rcase c0 z0, rcase c1 z1] true .select) w)
    (h0 : w.heap[c0]? = some (.chan cap0 #[] false s0 r0 tm0)) (h1 : w.heap[c1]? = some (.chan cap1 #[] true s1 r1 tm1))
    (hK : wpList P (o :: l).toArray Q l (a.put o.dst (.tuple #[goInt 1, .bool false, z0, z1])) w) :
    (Code.region id (o :: l).toArray false).wp P Q a w := by
  intro b k cs
  have ho : (o :: l).toArray[0]? = some o := by simp
  have hw : Region.wanted o (yielded (o :: l).toArray a.tmps) = true := by simp [Region.wanted, hg]
  have hl : wpOps P (o :: l).toArray Q (List.range' 1 l.length) (a.put o.dst (.tuple #[goInt 1, .bool false, z0, z1])) w := by
    rw [wpOps_eq_wpList l 1 (by intro j; simp [Nat.add_comm])]
    exact hK
  obtain ⟨e, a', w', hq, harr⟩ := wp_ops _ _ _ hl b k cs
  refine ⟨e, a', w', hq, .of_steps (.head step_region ?_) harr⟩
  have hrange : List.range (o :: l).toArray.size = 0 :: List.range' 1 l.length := by
    rw [List.range_eq_range', List.size_toArray, List.length_cons, List.range'_succ]
  rw [hrange]
  obtain ⟨es, hs⟩ := stepG_comm_any (main := true) (b := b) (k := k) (cs := cs) (rest := List.range' 1 l.length) ho hw hrun
  have := step_lone_sel_recv_shut (k := 1) hs rfl (fun m c' hm hc' => by
    rcases m with _ | _ | m
    · simp only [List.getElem?_toArray, List.getElem?_cons_zero, Option.some.injEq] at hc'
      subst hc'
      exact noWay_recv h0
    · exact absurd rfl hm
    · simp at hc') h1
  rw [Frame.finish_at, res_rr1, ho] at this
  exact Steps.one this
end Go.Proofs.Ybulkapkw
