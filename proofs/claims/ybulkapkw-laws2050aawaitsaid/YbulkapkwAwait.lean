/-
  (*Invocations).await and AwaitReports, entered alone, the lock free: done says yes; done says no and the context has ended (the select's second case).
-/
import Derived.Test.YbulkapkwDone
import Derived.Test.YbulkapkwLocks
import Derived.Test.YbulkapkwSel
import Derived.Deep.RegionWith
import Derived.Deep.Cut
namespace Go.Proofs.Ybulkapkw
open Go Go.RowKit Go.Maps Go.MuLone

/-- (*zzs2050actx).Done. -/
theorem ctx_done (X c : Nat) (w : World) (h0 : w.cell? ⟨X, 0, none⟩ = some (.chan (some c))) (h1 : w.cell? ⟨X, 1, none⟩ = some (.int .i64 0)) (f1 : w.frozen? ⟨X, 1, none⟩ = false) :
    Calls Yba.prog 68 #[.pointer (some ⟨X, 0, none⟩)] w fun e w' => e = .returned (.chan (some c)) ∧ w' = w.setCell ⟨X, 1, none⟩ (.int .i64 1) := by
  go_enter Yba.func68, Yba.ntmps68
  go_wp2
  go_ret
  exact ⟨rfl, rfl⟩

/-- What await is handed: the receiver's block V (its lock free), the context's block X, the captured variable's block ib, the map's block m, the channels' blocks. -/
structure Wait (R : Value → Option (DataW Unit × List MemPlace)) (V X ib m n ch dc : Nat) (D : DataW Unit) (l : Int) (w : World) : Prop where
  own : w.ownsMap Yba.prog 9 R m n D
  v1 : w.cell? ⟨V, 1, none⟩ = some (.int .i32 l)
  v3 : w.cell? ⟨V, 3, none⟩ = some (.map (some m))
  v4 : w.cell? ⟨V, 4, none⟩ = some (.chan (some ch))
  z1 : w.frozen? ⟨V, 1, none⟩ = false
  i0 : w.cell? ⟨ib, 0, none⟩ = some (.pointer (some ⟨V, 0, none⟩))
  x0 : w.cell? ⟨X, 0, none⟩ = some (.chan (some dc))
  x1 : w.cell? ⟨X, 1, none⟩ = some (.int .i64 0)
  zx : w.frozen? ⟨X, 1, none⟩ = false
  hch : w.heap[ch]? = some (.chan 0 #[] false 0 0 false)
  hdc : w.heap[dc]? = some (.chan 0 #[] true 0 0 false)
  hVX : V ≠ X
  hVi : V ≠ ib

theorem ne_of_cell_map {R : Value → Option (DataW Unit × List MemPlace)} {w : World} {m n V o : Nat} {D : DataW Unit} {v : Value} (h : w.ownsMap Yba.prog 9 R m n D) (hc : w.cell? ⟨V, o, none⟩ = some v) : m ≠ V := by
  rintro rfl
  obtain ⟨es, cl, hb, -⟩ := h
  simp [World.cell?, hb] at hc
theorem ne_of_cell_chan {w : World} {c V o cap s r : Nat} {buf : Array Value} {cl tm : Bool} {v : Value} (h : w.heap[c]? = some (.chan cap buf cl s r tm)) (hc : w.cell? ⟨V, o, none⟩ = some v) : c ≠ V := by
  rintro rfl
  simp [World.cell?, h] at hc

theorem lt_of_own {R : Value → Option (DataW Unit × List MemPlace)} {w : World} {m n : Nat} {D : DataW Unit} (h : w.ownsMap Yba.prog 9 R m n D) : m < w.heap.size := by
  obtain ⟨es, cl, hb, -⟩ := h
  apply Classical.byContradiction
  intro hn
  rw [Array.getElem?_eq_none (by omega)] at hb
  cases hb
theorem lt_of_heap {w : World} {c : Nat} {o : Obj} (h : w.heap[c]? = some o) : c < w.heap.size := by
  apply Classical.byContradiction
  intro hn
  rw [Array.getElem?_eq_none (by omega)] at h
  cases h
theorem own_below {R : Value → Option (DataW Unit × List MemPlace)} {w w' : World} {m n : Nat} {D : DataW Unit} (h : w.ownsMap Yba.prog 9 R m n D) {N : Nat} (hb : Below N w w') (hN : m < N) : w'.ownsMap Yba.prog 9 R m n D := by
  obtain ⟨es, cl, h1, h2⟩ := h
  exact ⟨es, cl, (hb.block m hN).trans h1, h2⟩

section
variable {R : Value → Option (DataW Unit × List MemPlace)} {V X ib m n ch dc : Nat} {D : DataW Unit} {l : Int} {w : World}
theorem Wait.lock (H : Wait R V X ib m n ch dc D l w) (l' : Int) : Wait R V X ib m n ch dc D l' (w.setCell ⟨V, 1, none⟩ (.int .i32 l')) := by
  obtain ⟨own, v1, v3, v4, z1, i0, x0, x1, zx, hch, hdc, hVX, hVi⟩ := H
  have e1 := ne_of_cell_chan hch v1
  have e2 := ne_of_cell_chan hdc v1
  exact ⟨own.setCell (ne_of_cell_map own v1) _, by go_simp, by go_simp, by go_simp, by go_simp, (World.cell?_setCell_other _ _ _ _ (fun e => hVi (congrArg Addr.block e))).trans i0,
    (World.cell?_setCell_other _ _ _ _ (fun e => hVX (congrArg Addr.block e))).trans x0, (World.cell?_setCell_other _ _ _ _ (fun e => hVX (congrArg Addr.block e))).trans x1, by go_simp,
    (Below.heap_setCell _ _ _ _ e1).trans hch, (Below.heap_setCell _ _ _ _ e2).trans hdc, hVX, hVi⟩
theorem Wait.drew (H : Wait R V X ib m n ch dc D l w) : Wait R V X ib m n ch dc D l w.drew := by
  obtain ⟨own, v1, v3, v4, z1, i0, x0, x1, zx, hch, hdc, hVX, hVi⟩ := H
  exact ⟨own, v1, v3, v4, z1, i0, x0, x1, zx, hch, hdc, hVX, hVi⟩
theorem Wait.below {w' : World} (H : Wait R V X ib m n ch dc D l w) (hb : Below w.heap.size w w') : Wait R V X ib m n ch dc D l w' := by
  obtain ⟨own, v1, v3, v4, z1, i0, x0, x1, zx, hch, hdc, hVX, hVi⟩ := H
  have a1 : V < w.heap.size := World.block_lt_of_cell? _ _ v1
  have a2 : X < w.heap.size := World.block_lt_of_cell? _ _ x0
  have a3 : ib < w.heap.size := World.block_lt_of_cell? _ _ i0
  exact ⟨own_below own hb (lt_of_own own), (hb.cell a1).trans v1, (hb.cell a1).trans v3, (hb.cell a1).trans v4, (hb.frozen a1).trans z1, (hb.cell a3).trans i0, (hb.cell a2).trans x0, (hb.cell a2).trans x1, (hb.frozen a2).trans zx,
    (hb.block _ (lt_of_heap hch)).trans hch, (hb.block _ (lt_of_heap hdc)).trans hdc, hVX, hVi⟩
end

/-- The context's dynamic type is known: its method Done is function 68. -/
theorem method_done (a : Addr) (w : World) : (method 232 55 (.pointer (some a)) "Done").run Yba.prog w = .ok (68, .pointer (some a)) w := by kernel_rfl

set_option maxRecDepth 100000 in
set_option maxHeartbeats 1000000 in
theorem await_true (R : Value → Option (DataW Unit × List MemPlace)) (hR : Hid (Reader R)) (B V X ib m n ch dc : Nat) (D : DataW Unit) (w : World) (H : Wait R V X ib m n ch dc D 0 w) (hBV : B ≤ V) (hq : Hid (Quiet D)) :
    Calls Yba.prog 10 #[.pointer (some ⟨V, 0, none⟩), .iface 55 (.pointer (some ⟨X, 0, none⟩)), .func (.func 11) #[] #[.pointer (some ⟨ib, 0, none⟩)]] w fun e w' =>
      e = .returned (.bool true) ∧ Below B w w' ∧ w'.ownsMap Yba.prog 9 R m n D ∧ w'.cell? ⟨V, 3, none⟩ = some (.map (some m)) ∧ w'.cell? ⟨X, 1, none⟩ = some (.int .i64 0) := by
  have hBs : B ≤ w.heap.size := Nat.le_of_lt (Nat.lt_of_le_of_lt hBV (World.block_lt_of_cell? _ _ H.v1))
  have H1 := (H.lock 1).drew
  have b1 : Below B w (w.setCell ⟨V, 1, none⟩ (.int .i32 1)).drew := ((Below.refl _ _).setCell hBV _).drew
  have u1 := H.v1
  have u2 := H.z1
  have u4 := H1.v4
  go_enter Yba.func10, Yba.ntmps10
  go_wp2
  refine wp_loop_rounds 1 ?_
  rw [rounds_succ]
  go_wp2_with (go_at_call 16; refine (lock_free Yba.muLib ⟨V, 1, none⟩ _ u1 u2).mono ?_; rintro e w' ⟨rfl, rfl⟩)
  clear u1 u2
  go_region_with (go_at_call 11; refine (done_true R hR.out ib V m n D _ H1.own H1.i0 H1.v3 hq).mono ?_; rintro e w2 ⟨rfl, hb2⟩; have H2 := H1.below hb2; have y1 := H2.v1; have y4 := H2.v4; have yz := H2.z1)
  all_goals
    go_wp2_with (go_at_call 17; refine (unlock_held Yba.muLib ⟨V, 1, none⟩ _ y1 yz).mono ?_; rintro e w' ⟨rfl, rfl⟩)
    go_ret
    exact ⟨rfl, (b1.trans (hb2.mono (by simpa using hBs))).setCell hBV _, (H2.lock 0).own, (H2.lock 0).v3, (H2.lock 0).x1⟩

set_option maxRecDepth 100000 in
set_option maxHeartbeats 1000000 in
theorem await_false (R : Value → Option (DataW Unit × List MemPlace)) (hR : Hid (Reader R)) (B V X ib m n ch dc : Nat) (D : DataW Unit) (w : World) (H : Wait R V X ib m n ch dc D 0 w) (hBV : B ≤ V) (hBX : B ≤ X) (hq : Hid (Waits D)) :
    Calls Yba.prog 10 #[.pointer (some ⟨V, 0, none⟩), .iface 55 (.pointer (some ⟨X, 0, none⟩)), .func (.func 11) #[] #[.pointer (some ⟨ib, 0, none⟩)]] w fun e w' =>
      e = .returned (.bool false) ∧ Below B w w' ∧ w'.ownsMap Yba.prog 9 R m n D ∧ w'.cell? ⟨V, 3, none⟩ = some (.map (some m)) ∧ w'.cell? ⟨X, 1, none⟩ = some (.int .i64 1) := by
  have hBs : B ≤ w.heap.size := Nat.le_of_lt (Nat.lt_of_le_of_lt hBV (World.block_lt_of_cell? _ _ H.v1))
  have H1 := (H.lock 1).drew
  have b1 : Below B w (w.setCell ⟨V, 1, none⟩ (.int .i32 1)).drew := ((Below.refl _ _).setCell hBV _).drew
  have u1 := H.v1
  have u2 := H.z1
  have u4 := H1.v4
  go_enter Yba.func10, Yba.ntmps10
  go_wp2
  refine wp_loop_rounds 1 ?_
  rw [rounds_succ]
  go_wp2_with (go_at_call 16; refine (lock_free Yba.muLib ⟨V, 1, none⟩ _ u1 u2).mono ?_; rintro e w' ⟨rfl, rfl⟩)
  clear u1 u2
  go_region_with (go_at_call 11; refine (done_false R hR.out ib V m n D _ H1.own H1.i0 H1.v3 hq).mono ?_; rintro e w2 ⟨rfl, hb2⟩; have H2 := H1.below hb2; have y1 := H2.v1; have y4 := H2.v4; have yz := H2.z1)
  all_goals
    have hm := method_done
    have H3 := H2.lock 0
    have hx0 := H3.x0
    have hx1 := H3.x1
    have hxz := H3.zx
    go_upto_region 7 with (go_at_call 17; refine (unlock_held Yba.muLib ⟨V, 1, none⟩ _ y1 yz).mono ?_; rintro e w' ⟨rfl, rfl⟩)
    go_upto_region 8 with (go_at_call 68; refine (ctx_done X dc _ hx0 hx1 hxz).mono ?_; rintro e w' ⟨rfl, rfl⟩)
    refine wp_sel_second ch dc (.agg #[]) (.agg #[]) rfl (by simp [go_sem, execOp, Conc.rcase, Act.eval]) ((Below.heap_setCell _ _ _ _ (ne_of_cell_chan H3.hch H3.x0)).trans H3.hch) ((Below.heap_setCell _ _ _ _ (ne_of_cell_chan H3.hdc H3.x0)).trans H3.hdc) ?_
    go_wp2
    go_ret
    exact ⟨rfl, ((b1.trans (hb2.mono (by simpa using hBs))).setCell hBV _).setCell hBX _, H3.own.setCell (ne_of_cell_map H3.own H3.x0) _, (World.cell?_setCell_other _ _ _ _ (fun e => H3.hVX (congrArg Addr.block e).symm)).trans H3.v3, World.cell?_setCell_same _ _ _ H3.x1⟩

/-- What AwaitReports is handed. -/
structure Pre (R : Value → Option (DataW Unit × List MemPlace)) (V X m n ch dc : Nat) (D : DataW Unit) (w : World) : Prop where
  own : w.ownsMap Yba.prog 9 R m n D
  v1 : w.cell? ⟨V, 1, none⟩ = some (.int .i32 0)
  v3 : w.cell? ⟨V, 3, none⟩ = some (.map (some m))
  v4 : w.cell? ⟨V, 4, none⟩ = some (.chan (some ch))
  z1 : w.frozen? ⟨V, 1, none⟩ = false
  x0 : w.cell? ⟨X, 0, none⟩ = some (.chan (some dc))
  x1 : w.cell? ⟨X, 1, none⟩ = some (.int .i64 0)
  zx : w.frozen? ⟨X, 1, none⟩ = false
  hch : w.heap[ch]? = some (.chan 0 #[] false 0 0 false)
  hdc : w.heap[dc]? = some (.chan 0 #[] true 0 0 false)
  hVX : V ≠ X
theorem Pre.wait {R : Value → Option (DataW Unit × List MemPlace)} {V X m n ch dc : Nat} {D : DataW Unit} {w : World} (H : Pre R V X m n ch dc D w) :
    Wait R V X w.heap.size m n ch dc D 0 (w.alloc (.cells #[.pointer (some ⟨V, 0, none⟩)] 23)) := by
  obtain ⟨own, v1, v3, v4, z1, x0, x1, zx, hch, hdc, hVX⟩ := H
  have hb : Below w.heap.size w (w.alloc (.cells #[.pointer (some ⟨V, 0, none⟩)] 23)) := (Below.refl _ _).alloc (Nat.le_refl _) _
  have a1 : V < w.heap.size := World.block_lt_of_cell? _ _ v1
  have a2 : X < w.heap.size := World.block_lt_of_cell? _ _ x0
  exact ⟨own_below own hb (lt_of_own own), (hb.cell a1).trans v1, (hb.cell a1).trans v3, (hb.cell a1).trans v4, (hb.frozen a1).trans z1, by go_simp, (hb.cell a2).trans x0, (hb.cell a2).trans x1, (hb.frozen a2).trans zx,
    (hb.block _ (lt_of_heap hch)).trans hch, (hb.block _ (lt_of_heap hdc)).trans hdc, hVX, by omega⟩

theorem reports_true (R : Value → Option (DataW Unit × List MemPlace)) (hR : Hid (Reader R)) (B V X m n ch dc : Nat) (D : DataW Unit) (w : World) (H : Pre R V X m n ch dc D w) (hBV : B ≤ V) (hq : Hid (Quiet D)) :
    Calls Yba.prog 7 #[.pointer (some ⟨V, 0, none⟩), .iface 55 (.pointer (some ⟨X, 0, none⟩))] w fun e w' =>
      e = .returned (.bool true) ∧ Below B w w' ∧ w'.ownsMap Yba.prog 9 R m n D ∧ w'.cell? ⟨V, 3, none⟩ = some (.map (some m)) ∧ w'.cell? ⟨X, 1, none⟩ = some (.int .i64 0) := by
  have hBs : B ≤ w.heap.size := Nat.le_of_lt (Nat.lt_of_le_of_lt hBV (World.block_lt_of_cell? _ _ H.v1))
  have HW := H.wait
  have hmf : ∀ (fn : Fn) (first cap : Array Value) (w : World), (Instr.makeFunc fn first cap).run Yba.prog w = .ok (.func fn first cap) w := fun _ _ _ _ => rfl
  go_enter Yba.func7, Yba.ntmps7
  go_wp2_with fail
  refine (await_true R hR B V X w.heap.size m n ch dc D _ HW hBV hq).mono ?_
  rintro e w1 ⟨rfl, hb, ho, h3, hx⟩
  go_wp2
  go_ret
  exact ⟨rfl, ((Below.refl _ _).alloc hBs _).trans hb, ho, h3, hx⟩

theorem reports_false (R : Value → Option (DataW Unit × List MemPlace)) (hR : Hid (Reader R)) (B V X m n ch dc : Nat) (D : DataW Unit) (w : World) (H : Pre R V X m n ch dc D w) (hBV : B ≤ V) (hBX : B ≤ X) (hq : Hid (Waits D)) :
    Calls Yba.prog 7 #[.pointer (some ⟨V, 0, none⟩), .iface 55 (.pointer (some ⟨X, 0, none⟩))] w fun e w' =>
      e = .returned (.bool false) ∧ Below B w w' ∧ w'.ownsMap Yba.prog 9 R m n D ∧ w'.cell? ⟨V, 3, none⟩ = some (.map (some m)) ∧ w'.cell? ⟨X, 1, none⟩ = some (.int .i64 1) := by
  have hBs : B ≤ w.heap.size := Nat.le_of_lt (Nat.lt_of_le_of_lt hBV (World.block_lt_of_cell? _ _ H.v1))
  have HW := H.wait
  have hmf : ∀ (fn : Fn) (first cap : Array Value) (w : World), (Instr.makeFunc fn first cap).run Yba.prog w = .ok (.func fn first cap) w := fun _ _ _ _ => rfl
  go_enter Yba.func7, Yba.ntmps7
  go_wp2_with fail
  refine (await_false R hR B V X w.heap.size m n ch dc D _ HW hBV hBX hq).mono ?_
  rintro e w1 ⟨rfl, hb, ho, h3, hx⟩
  go_wp2
  go_ret
  exact ⟨rfl, ((Below.refl _ _).alloc hBs _).trans hb, ho, h3, hx⟩
end Go.Proofs.Ybulkapkw
