/-
  The closure that the law hands to NewSequence (function 5, LawS2054BOrder's; function 8, LawS2054BReverse's), and NewSequence.
-/
import Derived.Test.YbulkapnaSeq
namespace Go.Proofs.Ybulkapna
open Go Go.RowKit

theorem info3 : (Yba.prog.info? 3).map (fun i => (i.zero, i.size, i.bytes)) = some (some (.int .i64 0), 1, 8) := by kernel_rfl
theorem info43 : (Yba.prog.info? 43).map (fun i => (i.zero, i.size, i.bytes)) = some (some (.agg #[.int .u32 0]), 1, 4) := by kernel_rfl
/-- make([]atomic.Bool, n): a new row of zeroes. -/
theorem make_flags (n : Nat) (hn : n ≤ 256) : ∃ C : Array Value, (∀ w : World, (Instr.makeSlice 31 (.int .i64 n) (.int .i64 n)).run Yba.prog w = .ok (.slice (some ⟨w.heap.size, 0, none⟩) n n) (w.alloc (.cells C 43))) ∧ ∀ i, i < n → C[i]? = some (.int .u32 0) := by
  obtain ⟨i0, hi, hz0, hz1, hz2⟩ := info_parts info43
  refine ⟨madeCells #[.int .u32 0] n, fun w => ?_, fun i hi => ?_⟩
  · have := run_make (P := Yba.prog) w 31 43 i0 _ Yba.underlying31 hi hz0 .i64 .i64 n n (by omega) (by omega) (by rw [hz2]; omega) (by omega)
    rw [hz1] at this
    simpa [Value.cells] using this
  · simp only [madeCells, Array.getElem?_map]
    rw [Array.getElem?_eq_getElem (by simpa using hi)]
    simp [Nat.mod_one]
theorem row_form {w : World} {base : Nat} {e : TypeId} {size : Nat} {v : Value} {n : Nat} {xs : List Value} (h : w.ownsRow base e size v n xs) : ∃ a cap, v = .slice a n cap ∧ (0 < n → ∃ g, a = some ⟨g, 0, none⟩) := by
  rcases h.2 with ⟨rfl, rfl⟩ | ⟨g, cap, cur, rfl, -⟩
  · exact ⟨none, 0, rfl, fun h => by omega⟩
  · exact ⟨_, cap, rfl, fun _ => ⟨g, rfl⟩⟩
/-- What the walk is told of a slice of bools that came in. -/
def IsBools (w : World) (a : Option Addr) (len : Nat) (A : Nat → Bool) : Prop :=
  len = 0 ∨ ∃ b off, a = some ⟨b, off, none⟩ ∧ b < w.heap.size ∧ ∀ i, i < len → w.cell? ⟨b, off + i, none⟩ = some (.bool (A i))

set_option maxRecDepth 100000 in
set_option maxHeartbeats 1000000 in
theorem step5 (len cap bs : Nat) (O : Nat → Option Obj) (a : Option Addr) (lk : Int) (rd : Nat → Bool) (nx en : Nat) (lv : Value) (A : Nat → Bool) (w0 w : World) (hlen : len ≤ 256) (hnx : nx < len) (HA : Hid (IsBools w0 a len A)) (h : Sq 5 w0.heap.size len cap bs O a lk rd nx en nx lv w0 w) :
    Calls Yba.prog 5 #[.int .i64 nx, .pointer (some ⟨w0.heap.size + 1, 0, none⟩), .pointer (some ⟨w0.heap.size + 2, 0, none⟩), .pointer (some ⟨w0.heap.size, 0, none⟩)] w fun e w' => e = .returned (.bool (A nx)) ∧ ∃ lv', Sq 5 w0.heap.size len cap bs O a lk rd nx en (nx + 1) lv' w0 w' := by
  obtain ⟨b, off, rfl, hb, hcell⟩ : ∃ b off, a = some ⟨b, off, none⟩ ∧ b < w0.heap.size ∧ ∀ i, i < len → w0.cell? ⟨b, off + i, none⟩ = some (.bool (A i)) := by
    rcases HA.out with h | h
    · omega
    · exact h
  have ck : w.cell? ⟨b, off + nx, none⟩ = some (.bool (A nx)) := (h.bel.cell (p := ⟨b, off + nx, none⟩) hb).trans (hcell nx hnx)
  obtain ⟨i0, hi, hz0, hz1, hz2⟩ := info_parts info3
  obtain ⟨av, capv, rfl, -⟩ := row_form h.row
  have HS := hide h
  have ca := h.ca
  have cn := h.cn
  have cl := h.cl
  have zl := h.zl
  have hsz := h.size
  have hbs := h.hbs
  have b0 : (nx : Int) < (len : Int) := by omega
  clear hcell h
  go_enter Yba.func5, Yba.ntmps5
  go_wp2_with (first
    | (at_builtin; refine wpList_append_own_at _ rfl _ _ 24 rfl bs 3 i0 _ 1 8 Yba.underlying24 hi hz0 hz1 hz2 rfl (by decide) _ _ _ rfl (HS.out.row.alloc _) ⟨w.heap.size, 0, none⟩ 1 1 [.int .i64 (nx : Nat)] rfl rfl (cell_one_new _ _ _) (fun u hu => by simp at hu; subst hu; rfl) (by unfold maxLen; omega) (by omega) (by simp; omega) ?_; intro v' w1 hown' hgrow hnil hloc
       obtain ⟨g1, cap1, rfl⟩ := ownsRow_succ hown'
       obtain ⟨hS2, cl', zl', hc'⟩ := HS.out.grow hown' hgrow rfl
       have HS2 := hide hS2
       have ca' := (hc' w0.heap.size 0 (by omega)).trans ca
       have ck' := (hc' b (off + nx) (by omega)).trans ck
       clear hown' hgrow hnil hloc hS2 hc' ca cn cl zl ck)
    | go_in)
  go_ret
  exact ⟨rfl, _, HS2.out⟩
set_option maxRecDepth 100000 in
set_option maxHeartbeats 1000000 in
theorem step8 (len cap bs : Nat) (O : Nat → Option Obj) (a : Option Addr) (lk : Int) (rd : Nat → Bool) (nx en : Nat) (lv : Value) (A : Nat → Bool) (w0 w : World) (hlen : len ≤ 256) (hnx : nx < len) (HA : Hid (IsBools w0 a len A)) (h : Sq 8 w0.heap.size len cap bs O a lk rd nx en nx lv w0 w) :
    Calls Yba.prog 8 #[.int .i64 nx, .pointer (some ⟨w0.heap.size + 1, 0, none⟩), .pointer (some ⟨w0.heap.size + 2, 0, none⟩), .pointer (some ⟨w0.heap.size, 0, none⟩)] w fun e w' => e = .returned (.bool (A nx)) ∧ ∃ lv', Sq 8 w0.heap.size len cap bs O a lk rd nx en (nx + 1) lv' w0 w' := by
  obtain ⟨b, off, rfl, hb, hcell⟩ : ∃ b off, a = some ⟨b, off, none⟩ ∧ b < w0.heap.size ∧ ∀ i, i < len → w0.cell? ⟨b, off + i, none⟩ = some (.bool (A i)) := by
    rcases HA.out with h | h
    · omega
    · exact h
  have ck : w.cell? ⟨b, off + nx, none⟩ = some (.bool (A nx)) := (h.bel.cell (p := ⟨b, off + nx, none⟩) hb).trans (hcell nx hnx)
  obtain ⟨i0, hi, hz0, hz1, hz2⟩ := info_parts info3
  obtain ⟨av, capv, rfl, -⟩ := row_form h.row
  have HS := hide h
  have ca := h.ca
  have cn := h.cn
  have cl := h.cl
  have zl := h.zl
  have hsz := h.size
  have hbs := h.hbs
  have b0 : (nx : Int) < (len : Int) := by omega
  clear hcell h
  go_enter Yba.func8, Yba.ntmps8
  go_wp2_with (first
    | (at_builtin; refine wpList_append_own_at _ rfl _ _ 24 rfl bs 3 i0 _ 1 8 Yba.underlying24 hi hz0 hz1 hz2 rfl (by decide) _ _ _ rfl (HS.out.row.alloc _) ⟨w.heap.size, 0, none⟩ 1 1 [.int .i64 (nx : Nat)] rfl rfl (cell_one_new _ _ _) (fun u hu => by simp at hu; subst hu; rfl) (by unfold maxLen; omega) (by omega) (by simp; omega) ?_; intro v' w1 hown' hgrow hnil hloc
       obtain ⟨g1, cap1, rfl⟩ := ownsRow_succ hown'
       obtain ⟨hS2, cl', zl', hc'⟩ := HS.out.grow hown' hgrow rfl
       have HS2 := hide hS2
       have ca' := (hc' w0.heap.size 0 (by omega)).trans ca
       have ck' := (hc' b (off + nx) (by omega)).trans ck
       clear hown' hgrow hnil hloc hS2 hc' ca cn cl zl ck)
    | go_in)
  go_ret
  exact ⟨rfl, _, HS2.out⟩

/-- NewSequence. -/
theorem new_c (n F : Nat) (caps C : Array Value) (hmk : ∀ w : World, (Instr.makeSlice 31 (.int .i64 n) (.int .i64 n)).run Yba.prog w = .ok (.slice (some ⟨w.heap.size, 0, none⟩) n n) (w.alloc (.cells C 43))) (w : World) :
    Calls Yba.prog 6 #[.int .i64 n, .func (.func F) #[] caps] w fun e w' => e = .returned (.pointer (some ⟨w.heap.size + 1, 0, none⟩)) ∧
      w' = (w.alloc (.cells C 43)).alloc (.cells #[.func (.func F) #[] caps, .slice (some ⟨w.heap.size, 0, none⟩) n n, .int .i32 0, .int .u32 0, .int .i64 0, .int .i64 n] 40) := by
  go_enter Yba.func6, Yba.ntmps6
  go_wp2
  go_ret
  exact ⟨rfl, rfl⟩
end Go.Proofs.Ybulkapna
