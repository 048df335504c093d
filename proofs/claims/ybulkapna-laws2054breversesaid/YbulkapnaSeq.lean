/-
  A Sequence's memory, as the law lays it, and how each store turns it.
-/
import Derived.Test.YbulkapnaSync
import Derived.WalkKit
import Derived.LoopTactic
import Derived.Maps.AppendAt
import Derived.OwnWalk
import Derived.OneCell
import Derived.RangeFuncBox
import Derived.Laws.OwnMore
namespace Go.Proofs.Ybulkapna
open Go Go.RowKit

theorem hide {p : Prop} (h : p) : Hid p := h
/-- The log: 0, 1, 2 and on. -/
def nums (n : Nat) : List Value := (List.range n).map fun i => .int .i64 (i : Nat)
theorem nums_succ (n : Nat) : nums (n + 1) = nums n ++ [.int .i64 (n : Nat)] := by simp [nums, List.range_succ]
theorem nums_length (n : Nat) : (nums n).length = n := by simp [nums]
theorem nums_at {n k : Nat} (h : k < n) : (nums n)[k]? = some (.int .i64 (k : Nat)) := by
  rw [nums, List.getElem?_map, List.getElem?_eq_getElem (by simpa using h)]
  simp
def flag (b : Bool) : Value := .int .u32 (if b then 1 else 0)
/-- q: the block of the variable ans; q + 1: n; q + 2: log; q + 3: the row of flags; q + 4: the Sequence; from q + 5 up to bs: as O says; from bs on: the log's rows. -/
structure Sq (F q len cap bs : Nat) (O : Nat → Option Obj) (a : Option Addr) (lk : Int) (rd : Nat → Bool) (nx en ln : Nat) (lv : Value) (w0 w : World) : Prop where
  ca : w.cell? ⟨q, 0, none⟩ = some (.slice a len cap)
  cn : w.cell? ⟨q + 1, 0, none⟩ = some (.int .i64 len)
  cl : w.cell? ⟨q + 2, 0, none⟩ = some lv
  zl : w.frozen? ⟨q + 2, 0, none⟩ = false
  s0 : w.cell? ⟨q + 4, 0, none⟩ = some (.func (.func F) #[] #[.pointer (some ⟨q + 1, 0, none⟩), .pointer (some ⟨q + 2, 0, none⟩), .pointer (some ⟨q, 0, none⟩)])
  s1 : w.cell? ⟨q + 4, 1, none⟩ = some (.slice (some ⟨q + 3, 0, none⟩) len len)
  s2 : w.cell? ⟨q + 4, 2, none⟩ = some (.int .i32 lk)
  s4 : w.cell? ⟨q + 4, 4, none⟩ = some (.int .i64 nx)
  s5 : w.cell? ⟨q + 4, 5, none⟩ = some (.int .i64 en)
  z2 : w.frozen? ⟨q + 4, 2, none⟩ = false
  z4 : w.frozen? ⟨q + 4, 4, none⟩ = false
  z5 : w.frozen? ⟨q + 4, 5, none⟩ = false
  rdy : ∀ i, i < len → w.cell? ⟨q + 3, i, none⟩ = some (flag (rd i))
  zr : ∀ i, w.frozen? ⟨q + 3, i, none⟩ = false
  row : w.ownsRow bs 3 1 lv ln (nums ln)
  obj : ∀ i, q + 5 ≤ i → i < bs → w.heap[i]? = O i
  hbs : q + 5 ≤ bs
  bel : Below q w0 w
  size : bs ≤ w.heap.size

section
variable {F q len cap bs : Nat} {O : Nat → Option Obj} {a : Option Addr} {lk : Int} {rd : Nat → Bool} {nx en ln : Nat} {lv : Value} {w0 w : World}
theorem Sq.keep (h : Sq F q len cap bs O a lk rd nx en ln lv w0 w) {w' : World} (hb : ∀ i, i < bs → w'.heap[i]? = w.heap[i]?) {ln' : Nat} (hrow : w'.ownsRow bs 3 1 lv ln' (nums ln')) (hbel : Below q w0 w') (hsz : bs ≤ w'.heap.size) : Sq F q len cap bs O a lk rd nx en ln' lv w0 w' :=
  have h5 := h.hbs
  have c : ∀ b o, b < q + 5 → w'.cell? ⟨b, o, none⟩ = w.cell? ⟨b, o, none⟩ := fun b o hb' => World.cell?_of_block (w := w) (hb b (by omega))
  have f : ∀ b o, b < q + 5 → w'.frozen? ⟨b, o, none⟩ = w.frozen? ⟨b, o, none⟩ := fun b o hb' => World.frozen?_of_block (w := w) (hb b (by omega))
  ⟨(c _ _ (by omega)).trans h.ca, (c _ _ (by omega)).trans h.cn, (c _ _ (by omega)).trans h.cl, (f _ _ (by omega)).trans h.zl, (c _ _ (by omega)).trans h.s0, (c _ _ (by omega)).trans h.s1, (c _ _ (by omega)).trans h.s2, (c _ _ (by omega)).trans h.s4, (c _ _ (by omega)).trans h.s5,
   (f _ _ (by omega)).trans h.z2, (f _ _ (by omega)).trans h.z4, (f _ _ (by omega)).trans h.z5, fun i hi => (c _ _ (by omega)).trans (h.rdy i hi), fun i => (f _ _ (by omega)).trans (h.zr i), hrow, fun i h1 h2 => (hb i h2).trans (h.obj i h1 h2), h.hbs, hbel, hsz⟩
theorem Sq.drew (h : Sq F q len cap bs O a lk rd nx en ln lv w0 w) : Sq F q len cap bs O a lk rd nx en ln lv w0 w.drew :=
  h.keep (w' := w.drew) (fun _ _ => rfl) h.row h.bel.drew h.size
theorem Sq.lock (h : Sq F q len cap bs O a lk rd nx en ln lv w0 w) (l : Int) : Sq F q len cap bs O a l rd nx en ln lv w0 (w.setCell ⟨q + 4, 2, none⟩ (.int .i32 l)) := by
  obtain ⟨ca, cn, cl, zl, s0, s1, s2, s4, s5, z2, z4, z5, rdy, zr, row, obj, hbs, bel, size⟩ := h
  exact ⟨by go_simp, by go_simp, by go_simp, by go_simp, by go_simp, by go_simp, by go_simp, by go_simp, by go_simp, by go_simp, by go_simp, by go_simp, fun i hi => by have := rdy i hi; clear obj hbs size bel row; go_simp, fun i => by have := zr i; clear obj hbs size bel row; go_simp,
    ownsRow_setCell_below row (by simp; omega) _, fun i h1 h2 => (Below.heap_setCell _ _ _ _ (by simp; omega)).trans (obj i h1 h2), hbs, bel.setCell (by simp) _, by simpa using size⟩
theorem Sq.next (h : Sq F q len cap bs O a lk rd nx en ln lv w0 w) (m : Nat) : Sq F q len cap bs O a lk rd m en ln lv w0 (w.setCell ⟨q + 4, 4, none⟩ (.int .i64 m)) := by
  obtain ⟨ca, cn, cl, zl, s0, s1, s2, s4, s5, z2, z4, z5, rdy, zr, row, obj, hbs, bel, size⟩ := h
  exact ⟨by go_simp, by go_simp, by go_simp, by go_simp, by go_simp, by go_simp, by go_simp, by go_simp, by go_simp, by go_simp, by go_simp, by go_simp, fun i hi => by have := rdy i hi; clear obj hbs size bel row; go_simp, fun i => by have := zr i; clear obj hbs size bel row; go_simp,
    ownsRow_setCell_below row (by simp; omega) _, fun i h1 h2 => (Below.heap_setCell _ _ _ _ (by simp; omega)).trans (obj i h1 h2), hbs, bel.setCell (by simp) _, by simpa using size⟩
theorem Sq.last (h : Sq F q len cap bs O a lk rd nx en ln lv w0 w) (m : Nat) : Sq F q len cap bs O a lk rd nx m ln lv w0 (w.setCell ⟨q + 4, 5, none⟩ (.int .i64 m)) := by
  obtain ⟨ca, cn, cl, zl, s0, s1, s2, s4, s5, z2, z4, z5, rdy, zr, row, obj, hbs, bel, size⟩ := h
  exact ⟨by go_simp, by go_simp, by go_simp, by go_simp, by go_simp, by go_simp, by go_simp, by go_simp, by go_simp, by go_simp, by go_simp, by go_simp, fun i hi => by have := rdy i hi; clear obj hbs size bel row; go_simp, fun i => by have := zr i; clear obj hbs size bel row; go_simp,
    ownsRow_setCell_below row (by simp; omega) _, fun i h1 h2 => (Below.heap_setCell _ _ _ _ (by simp; omega)).trans (obj i h1 h2), hbs, bel.setCell (by simp) _, by simpa using size⟩
def setB (rd : Nat → Bool) (i : Nat) : Nat → Bool := fun k => if k = i then true else rd k
theorem Sq.ready (h : Sq F q len cap bs O a lk rd nx en ln lv w0 w) (i : Nat) (hi : i < len) : Sq F q len cap bs O a lk (setB rd i) nx en ln lv w0 (w.setCell ⟨q + 3, i, none⟩ (.int .u32 1)) := by
  obtain ⟨ca, cn, cl, zl, s0, s1, s2, s4, s5, z2, z4, z5, rdy, zr, row, obj, hbs, bel, size⟩ := h
  refine ⟨by go_simp, by go_simp, by go_simp, by go_simp, by go_simp, by go_simp, by go_simp, by go_simp, by go_simp, by go_simp, by go_simp, by go_simp, fun k hk => ?_, fun k => by have := zr k; clear obj hbs size bel row; go_simp,
    ownsRow_setCell_below row (by simp; omega) _, fun i h1 h2 => (Below.heap_setCell _ _ _ _ (by simp; omega)).trans (obj i h1 h2), hbs, bel.setCell (by simp) _, by simpa using size⟩
  unfold setB
  by_cases e : k = i
  · subst e
    rw [if_pos rfl]
    exact World.cell?_setCell_same' _ _ _ (by rw [rdy k hk, Option.isSome_some])
  · rw [if_neg e, World.cell?_setCell_other _ _ _ _ (fun e2 => e (congrArg Addr.off e2).symm)]
    exact rdy k hk
/-- Behind the append to the log, and the store. -/
theorem Sq.grow (h : Sq F q len cap bs O a lk rd nx en ln lv w0 w) {o : Obj} {w1 : World} {lv' : Value} (hown : w1.ownsRow bs 3 1 lv' (ln + 1) (nums ln ++ [.int .i64 (ln : Nat)])) (hg : (w.alloc o).grownBy w1 lv.ownBlock) (hq : q = w0.heap.size) :
    Sq F q len cap bs O a lk rd nx en (ln + 1) lv' w0 (w1.setCell ⟨q + 2, 0, none⟩ lv') ∧ w1.cell? ⟨q + 2, 0, none⟩ = some lv ∧ w1.frozen? ⟨q + 2, 0, none⟩ = false ∧ ∀ b o, b < q + 5 → w1.cell? ⟨b, o, none⟩ = w.cell? ⟨b, o, none⟩ := by
  have hsz := h.size
  have hbs := h.hbs
  have hb : ∀ i, i < bs → w1.heap[i]? = w.heap[i]? := by
    intro i hi
    rw [hg.block i (by simp; omega) (fun e => by have := (h.row.lt i e.symm).1; omega)]
    exact Below.heap_alloc _ _ _ (by omega)
  have hbel : Below q w0 w1 := Below.grown (h.bel.alloc (by omega) _) hg (by simp; omega) (fun i hi => by have := (h.row.lt i hi).1; omega)
  have hs1 := hg.size
  simp at hs1
  have c : ∀ b o, b < q + 5 → w1.cell? ⟨b, o, none⟩ = w.cell? ⟨b, o, none⟩ := fun b o hb' => World.cell?_of_block (w := w) (hb b (by omega))
  have f : ∀ b o, b < q + 5 → w1.frozen? ⟨b, o, none⟩ = w.frozen? ⟨b, o, none⟩ := fun b o hb' => World.frozen?_of_block (w := w) (hb b (by omega))
  refine ⟨?_, (c _ _ (by omega)).trans h.cl, (f _ _ (by omega)).trans h.zl, c⟩
  have ca := (c q 0 (by omega)).trans h.ca
  have cn := (c (q + 1) 0 (by omega)).trans h.cn
  have cl := (c (q + 2) 0 (by omega)).trans h.cl
  have zl := (f (q + 2) 0 (by omega)).trans h.zl
  have s0 := (c (q + 4) 0 (by omega)).trans h.s0
  have s1 := (c (q + 4) 1 (by omega)).trans h.s1
  have s2 := (c (q + 4) 2 (by omega)).trans h.s2
  have s4 := (c (q + 4) 4 (by omega)).trans h.s4
  have s5 := (c (q + 4) 5 (by omega)).trans h.s5
  have z2 := (f (q + 4) 2 (by omega)).trans h.z2
  have z4 := (f (q + 4) 4 (by omega)).trans h.z4
  have z5 := (f (q + 4) 5 (by omega)).trans h.z5
  have rdy := fun i hi => (c (q + 3) i (by omega)).trans (h.rdy i hi)
  have zr := fun i => (f (q + 3) i (by omega)).trans (h.zr i)
  have obj := fun i h1 h2 => (hb i h2).trans (h.obj i h1 h2)
  rw [← nums_succ] at hown
  have hz1 : bs ≤ w1.heap.size := by omega
  have hown2 := ownsRow_setCell_below hown (a := ⟨q + 2, 0, none⟩) (by simp; omega) lv'
  have hobj2 : ∀ i, q + 5 ≤ i → i < bs → (w1.setCell ⟨q + 2, 0, none⟩ lv').heap[i]? = O i := fun i h1 h2 => (Below.heap_setCell _ _ _ _ (by simp; omega)).trans (obj i h1 h2)
  have hbel2 : Below q w0 (w1.setCell ⟨q + 2, 0, none⟩ lv') := hbel.setCell (by simp) _
  have hz2 : bs ≤ (w1.setCell ⟨q + 2, 0, none⟩ lv').heap.size := by simpa using hz1
  clear c f hb hg hq hs1 hsz h hown hbel hz1 obj
  exact ⟨by go_simp, by go_simp, by go_simp, by go_simp, by go_simp, by go_simp, by go_simp, by go_simp, by go_simp, by go_simp, by go_simp, by go_simp, fun i hi => by have := rdy i hi; clear hobj2 hown2 hbel2; go_simp, fun i => by have := zr i; clear hobj2 hown2 hbel2; go_simp,
    hown2, hobj2, hbs, hbel2, hz2⟩
end
end Go.Proofs.Ybulkapna
