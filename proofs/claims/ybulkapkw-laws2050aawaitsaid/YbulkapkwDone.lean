/-
  The closure of AwaitReports: a range over the map of progresses; elements read by a reader R (their three flags).
-/
import Derived.Test.YbulkapkwLast
import Derived.Maps.RangeWalk
import Derived.Maps.OwnSet
import Derived.Laws.Tables
import Derived.Laws.Rows
namespace Go.Proofs.Ybulkapkw
open Go Go.RowKit Go.Maps

/-- A progress with its three flags; all else is zero. -/
def progCells (a b c : Bool) : Array Value := #[.bool a, .bool b, .bool c, .string ⟨#[]⟩, .int .u64 0, .int .i64 0, .pointer none, .int .u64 0, .int .i64 0, .pointer none, .string ⟨#[]⟩, .string ⟨#[]⟩, .bool false, .slice none 0 0, .string ⟨#[]⟩, .string ⟨#[]⟩, .slice none 0 0, .pointer none, .int .i64 0, .bool false, .pointer none]
def progV (a b c : Bool) : Value := .agg (progCells a b c)
theorem progCells_size (a b c : Bool) : (progCells a b c).size = 21 := rfl
theorem progCells_one (a b c : Bool) : (progCells a b c).all (·.oneCell') = true := by kernel_rfl
theorem progCells_0 (a b c : Bool) : (progCells a b c)[0]? = some (.bool a) := rfl
theorem progCells_1 (a b c : Bool) : (progCells a b c)[1]? = some (.bool b) := rfl
theorem progCells_2 (a b c : Bool) : (progCells a b c)[2]? = some (.bool c) := rfl
theorem progCells_g0 (a b c : Bool) (h : 0 < (progCells a b c).size) : (progCells a b c)[0] = .bool a := rfl
theorem progCells_g1 (a b c : Bool) (h : 1 < (progCells a b c).size) : (progCells a b c)[1] = .bool b := rfl
theorem progCells_g2 (a b c : Bool) (h : 2 < (progCells a b c).size) : (progCells a b c)[2] = .bool c := rfl
theorem info53 : (Yba.prog.info? 53).map (·.size) = some 21 := by kernel_rfl
def progD (a b c : Bool) : DataW Unit := .agg [.lit (.bool a), .lit (.bool b), .lit (.bool c)]
structure Flags where
  a : Bool
  b : Bool
  c : Bool
/-- How the map's elements are read: by their flags alone. -/
structure Reader (R : Value → Option (DataW Unit × List MemPlace)) : Prop where
  made : ∀ a b c, R (progV a b c) = some (progD a b c, [])
  inv : ∀ v z, R v = some z → ∃ a b c, v = progV a b c ∧ z = (progD a b c, [])
theorem progV_inj {a b c a' b' c' : Bool} (h : progV a b c = progV a' b' c') : a = a' ∧ b = b' ∧ c = c' := by
  simp only [progV, progCells, Value.agg.injEq, Array.mk.injEq, List.cons.injEq, Value.bool.injEq] at h
  exact ⟨h.1, h.2.1, h.2.2.1⟩
theorem progD_inj {a b c a' b' c' : Bool} (h : progD a b c = progD a' b' c') : a = a' ∧ b = b' ∧ c = c' := by
  simp only [progD, DataW.agg.injEq, List.cons.injEq, DataW.lit.injEq, Lit.bool.injEq, and_true] at h
  exact h
theorem exists_reader : ∃ R, Reader R := by
  classical
  refine ⟨fun v => if h : ∃ t : Bool × Bool × Bool, v = progV t.1 t.2.1 t.2.2 then some (progD (Classical.choose h).1 (Classical.choose h).2.1 (Classical.choose h).2.2, []) else Option.none, ?_, ?_⟩
  · intro a b c
    have h : ∃ t : Bool × Bool × Bool, progV a b c = progV t.1 t.2.1 t.2.2 := ⟨(a, b, c), rfl⟩
    rw [dif_pos h]
    obtain ⟨e1, e2, e3⟩ := progV_inj (Classical.choose_spec h)
    rw [← e1, ← e2, ← e3]
  · intro v z hz
    by_cases h : ∃ t : Bool × Bool × Bool, v = progV t.1 t.2.1 t.2.2
    · rw [dif_pos h] at hz
      exact ⟨_, _, _, Classical.choose_spec h, by simpa using hz.symm⟩
    · rw [dif_neg h] at hz; cases hz

theorem law9 : Keyed Yba.prog 9 := string_keyed Yba.underlying9

/-- A whole struct stored into the block that was just laid for it. -/
theorem setRow_new (w : World) (Z cs : Array Value) (t : TypeId) : (w.alloc (.cells Z t)).setRow w.heap.size cs = w.alloc (.cells cs t) := by
  simp only [World.setRow, World.alloc]
  congr 1
  apply Array.ext_getElem?
  intro i
  rw [Array.getElem?_modify]
  by_cases hi : i = w.heap.size
  · subst hi; simp
  · rw [if_neg (fun e => hi e.symm), Array.getElem?_push, Array.getElem?_push, if_neg hi, if_neg hi]
theorem wpList_store_new {P : Program} {ops : Array Oper} {rest : List Oper} {o : Oper} {a : Act} {w : World} {Q : Exit → Act → World → Prop} (hgd : o.guard = none) (ty : TypeId) (x y : Operand) (ho : o.op = .store ty x y)
    (Z cs : Array Value) (hx : a.eval x = .pointer (some ⟨w.heap.size, 0, none⟩)) (hy : a.eval y = .agg cs) (hi : (P.info? ty).map (·.size) = some cs.size) (hold : Z.size = cs.size) (h1 : cs.all (·.oneCell') = true)
    (h : wpList P ops Q rest (a.put o.dst undef) (w.alloc (.cells cs ty))) : wpList P ops Q (o :: rest) a (w.alloc (.cells Z ty)) :=
  wpList_store_row hgd ty x y ho w.heap.size cs hx hy ty Z (heap_alloc_new _ _) hi hold h1 (by rw [setRow_new]; exact h)

theorem store_cells (W : World) (Z cs : Array Value) (t : TypeId) (hsz : Z.size = cs.size) (h1 : cs.all (·.oneCell') = true) :
    (storeCells ⟨W.heap.size, 0, none⟩ cs.toList).run Yba.prog (W.alloc (.cells Z t)) = .ok () (W.alloc (.cells cs t)) := by
  have := run_storeCells_from (P := Yba.prog) W.heap.size t cs.toList 0 Z (W.alloc (.cells Z t)) (heap_alloc_new _ _) (by simp; omega) (fun v hv => (Array.all_eq_true_iff_forall_mem.1 h1) v (by simpa using hv))
  rw [this]
  congr 1
  simp only [List.take_zero, List.nil_append, Array.toArray_toList]
  exact setRow_new _ _ _ _
theorem store_cells_drew (W : World) (Z cs : Array Value) (t : TypeId) (hsz : Z.size = cs.size) (h1 : cs.all (·.oneCell') = true) :
    (storeCells ⟨W.heap.size, 0, none⟩ cs.toList).run Yba.prog (W.alloc (.cells Z t)).drew = .ok () (W.alloc (.cells cs t)).drew :=
  store_cells W.drew Z cs t hsz h1

theorem awaiting_any (a b c : Bool) (w : World) :
    Calls Yba.prog 12 #[progV a b c] w fun e w' => e = .returned (.bool (a && !c)) ∧ ∃ o, w' = w.alloc o := by
  unfold progV
  have hsz := progCells_size a b c
  have e0 := progCells_g0 a b c
  have e2 := progCells_g2 a b c
  generalize progCells a b c = cs at *
  cases a
  all_goals
    go_enter Yba.func12, Yba.ntmps12
    go_wp2
    go_ret
    exact ⟨by simp, _, rfl⟩

theorem keyOf_inv {key : Value} {kl : Lit} (h : keyOf Yba.prog 9 key = some kl) : ∃ s : ByteArray, key = .string s := by
  obtain ⟨s, rfl, -, -⟩ := WideMaps.string_of_keyOf Yba.underlying9 h
  exact ⟨s, rfl⟩
theorem hidden {p : Prop} (h : p) : Hid p := h

/-- Every element of the map has its report, or has not started. -/
def Quiet (D : DataW Unit) : Prop := ∀ kl a b c, Maps.has D kl = true → (∀ z, D.atKey kl z = progD a b c) → (a && !c) = false

/-- Some element has started without its report. -/
def StillWaits (D : DataW Unit) (left : Lit → Bool) : Prop := ∃ kl a b c, left kl = true ∧ (∀ z, D.atKey kl z = progD a b c) ∧ (a && !c) = true
def Waits (D : DataW Unit) : Prop := StillWaits D (Maps.has D)
theorem StillWaits.step {D : DataW Unit} {left : Lit → Bool} (h : StillWaits D left) {kl : Lit} {a b c : Bool} (hacc : (a && !c) = false) (hat : ∀ z, D.atKey kl z = progD a b c) : StillWaits D (fun z => left z && !z.sameKey kl) := by
  obtain ⟨k2, a2, b2, c2, h1, h2, h3⟩ := h
  refine ⟨k2, a2, b2, c2, ?_, h2, h3⟩
  cases hs : k2.sameKey kl with
  | false => simp [h1, hs]
  | true =>
    exfalso
    obtain rfl := WideAt.sameKey_eq hs
    obtain ⟨rfl, rfl, rfl⟩ := progD_inj ((h2 .nil).symm.trans (hat .nil))
    rw [h3] at hacc
    cases hacc

set_option maxRecDepth 100000 in
set_option maxHeartbeats 1000000 in
theorem done_true (R : Value → Option (DataW Unit × List MemPlace)) (hR : Reader R) (ib V m n : Nat) (D : DataW Unit) (w : World) (hown : w.ownsMap Yba.prog 9 R m n D)
    (h0 : w.cell? ⟨ib, 0, none⟩ = some (.pointer (some ⟨V, 0, none⟩))) (h3 : w.cell? ⟨V, 3, none⟩ = some (.map (some m))) (hq : Hid (Quiet D)) :
    Calls Yba.prog 11 #[.pointer (some ⟨ib, 0, none⟩)] w fun e w' => e = .returned (.bool true) ∧ Below w.heap.size w w' := by
  have H1 : Hid (Reader R) := hR
  clear hR
  go_enter Yba.func11, Yba.ntmps11
  go_wp2_with (first
    | (at_range; refine wpList_range_own _ rfl _ 24 rfl 9 53 law9 Yba.underlying24 R m n D rfl hown ?_; intro w0 hrg0 hg0 hs0)
    | go_in)
  go_frame
  have hb0 : Below w.heap.size w w0 := ⟨hg0.os, hg0.tape, hg0.output, hg0.size, fun i hi => hg0.block i hi (by simp)⟩
  go_loopw [3] (fun _ wr => ∃ (left : Lit → Bool) (cnt : Nat), wr.ranges Yba.prog 9 R m w.heap.size n D left cnt ∧ Below w.heap.size w wr ∧ Hid (∀ kl, left kl = true → Maps.has D kl = true)) (fun _ wr => wr.rangeLeft m w.heap.size)
  case atStart => exact ⟨_, _, hrg0, hb0, fun _ h => h⟩
  case round =>
    obtain ⟨left, cnt, hrg, hbel, HL⟩ := hrel
    clear hrg0 hg0 hs0 hb0
    go_wp2_with (first
      | (at_next; refine wpList_next_ranges _ rfl _ rfl 9 law9 R Value.string (fun t : Flags => progV t.a t.b t.c) (fun _ _ h => keyOf_inv h) (fun v y h => by obtain ⟨a, b, c, rfl, -⟩ := H1.out.inv v y h; exact ⟨⟨a, b, c⟩, rfl⟩) m w.heap.size n D left cnt rfl hrg ?_ ?_)
      | go_in)
    · intro _ hl0
      go_wp2
      go_ret
      exact ⟨rfl, hbel⟩
    · rintro s ⟨a, b, c⟩ kl yd yp w1 cnt1 hkey hlk hv hat hrg1 hlt hg1 hs1 hen
      have hacc : (a && !c) = false := by
        have e := (H1.out.made a b c).symm.trans hv
        simp only [Option.some.injEq, Prod.mk.injEq] at e
        exact hq.out kl a b c (HL.out kl hlk) (fun z => by rw [hat z, e.1])
      have hb1 : Below w.heap.size w w1 := hbel.trans ⟨hg1.os, hg1.tape, hg1.output, hg1.size, fun i hi => hg1.block i (by have := hbel.size; omega) (by simp; omega)⟩
      have HL2 : Hid (∀ z, (left z && !z.sameKey kl) = true → Maps.has D z = true) := fun z hz => HL.out z (by simp at hz; exact hz.1)
      have hws := hb1.size
      clear hv hat hkey hlk hg1 hs1
      simp only [progV] at hen ⊢
      have hz := progCells_size a b c
      have hone := progCells_one a b c
      have CA := hidden (fun w => awaiting_any a b c w)
      simp only [progV] at CA
      have hinf : (Yba.prog.info? 53).map (·.size) = some (progCells a b c).size := by rw [hz]; exact info53
      generalize progCells a b c = cs at *
      have HK := hidden (And.intro hinf (And.intro hz hone))
      clear hinf hz hone
      go_wp2_with (first
        | refine wpList_store_new rfl 53 (.tmp 3) (.tmp 12) rfl _ cs rfl rfl HK.out.1 (HK.out.2.1 ▸ rfl) HK.out.2.2 ?_
        | refine wpList_load_row rfl 53 (.tmp 3) rfl _ rfl 53 cs (0, 0) _ (heap_alloc_new _ _) Yba.underlying53 rfl HK.out.1 ?_
        | (go_at_call 12; refine (CA.out _).mono ?_; rintro e w2 ⟨rfl, o, rfl⟩))
      go_roundw
      case rel => exact ⟨_, cnt1, (hrg1.alloc _).alloc _, (hb1.alloc hws _).alloc (by simp; omega) _, HL2⟩
      case measure => rw [((hrg1.alloc _).alloc _).left_eq, hrg.left_eq]; exact hlt

set_option maxRecDepth 100000 in
set_option maxHeartbeats 1000000 in
theorem done_false (R : Value → Option (DataW Unit × List MemPlace)) (hR : Reader R) (ib V m n : Nat) (D : DataW Unit) (w : World) (hown : w.ownsMap Yba.prog 9 R m n D)
    (h0 : w.cell? ⟨ib, 0, none⟩ = some (.pointer (some ⟨V, 0, none⟩))) (h3 : w.cell? ⟨V, 3, none⟩ = some (.map (some m))) (hq : Hid (Waits D)) :
    Calls Yba.prog 11 #[.pointer (some ⟨ib, 0, none⟩)] w fun e w' => e = .returned (.bool false) ∧ Below w.heap.size w w' := by
  have H1 : Hid (Reader R) := hR
  clear hR
  go_enter Yba.func11, Yba.ntmps11
  go_wp2_with (first
    | (at_range; refine wpList_range_own _ rfl _ 24 rfl 9 53 law9 Yba.underlying24 R m n D rfl hown ?_; intro w0 hrg0 hg0 hs0)
    | go_in)
  go_frame
  have hb0 : Below w.heap.size w w0 := ⟨hg0.os, hg0.tape, hg0.output, hg0.size, fun i hi => hg0.block i hi (by simp)⟩
  go_loopw [3] (fun _ wr => ∃ (left : Lit → Bool) (cnt : Nat), wr.ranges Yba.prog 9 R m w.heap.size n D left cnt ∧ Below w.heap.size w wr ∧ Hid (StillWaits D left)) (fun _ wr => wr.rangeLeft m w.heap.size)
  case atStart => exact ⟨_, _, hrg0, hb0, hq⟩
  case round =>
    obtain ⟨left, cnt, hrg, hbel, HL⟩ := hrel
    clear hrg0 hg0 hs0 hb0
    go_wp2_with (first
      | (at_next; refine wpList_next_ranges _ rfl _ rfl 9 law9 R Value.string (fun t : Flags => progV t.a t.b t.c) (fun _ _ h => keyOf_inv h) (fun v y h => by obtain ⟨a, b, c, rfl, -⟩ := H1.out.inv v y h; exact ⟨⟨a, b, c⟩, rfl⟩) m w.heap.size n D left cnt rfl hrg ?_ ?_)
      | go_in)
    · intro _ hl0
      obtain ⟨kl, a, b, c, h1, -⟩ := HL.out
      rw [hl0 kl] at h1
      cases h1
    · rintro s ⟨a, b, c⟩ kl yd yp w1 cnt1 hkey hlk hv hat hrg1 hlt hg1 hs1 hen
      have hb1 : Below w.heap.size w w1 := hbel.trans ⟨hg1.os, hg1.tape, hg1.output, hg1.size, fun i hi => hg1.block i (by have := hbel.size; omega) (by simp; omega)⟩
      have HL2 : Hid ((a && !c) = false → StillWaits D (fun z => left z && !z.sameKey kl)) := by
        intro hacc
        have e := (H1.out.made a b c).symm.trans hv
        simp only [Option.some.injEq, Prod.mk.injEq] at e
        exact HL.out.step hacc (fun z => by rw [hat z, e.1])
      have hws := hb1.size
      clear hv hat hkey hlk hg1 hs1
      simp only [progV] at hen ⊢
      have hz := progCells_size a b c
      have hone := progCells_one a b c
      have CA := hidden (fun w => awaiting_any a b c w)
      simp only [progV] at CA
      have hinf : (Yba.prog.info? 53).map (·.size) = some (progCells a b c).size := by rw [hz]; exact info53
      generalize progCells a b c = cs at *
      have HK := hidden (And.intro hinf (And.intro hz hone))
      clear hinf hz hone
      cases hacc : (a && !c)
      · have HA : Hid ((a && !c) = false) := hacc
        simp only [hacc] at CA
        clear hacc
        go_wp2_with (first
          | refine wpList_store_new rfl 53 (.tmp 3) (.tmp 12) rfl _ cs rfl rfl HK.out.1 (HK.out.2.1 ▸ rfl) HK.out.2.2 ?_
          | refine wpList_load_row rfl 53 (.tmp 3) rfl _ rfl 53 cs (0, 0) _ (heap_alloc_new _ _) Yba.underlying53 rfl HK.out.1 ?_
          | (go_at_call 12; refine (CA.out _).mono ?_; rintro e w2 ⟨rfl, o, rfl⟩))
        go_roundw
        case rel => exact ⟨_, cnt1, (hrg1.alloc _).alloc _, (hb1.alloc hws _).alloc (by simp; omega) _, HL2.out HA.out⟩
        case measure => rw [((hrg1.alloc _).alloc _).left_eq, hrg.left_eq]; exact hlt
      · simp only [hacc] at CA
        clear hacc HL2
        go_wp2_with (first
          | refine wpList_store_new rfl 53 (.tmp 3) (.tmp 12) rfl _ cs rfl rfl HK.out.1 (HK.out.2.1 ▸ rfl) HK.out.2.2 ?_
          | refine wpList_load_row rfl 53 (.tmp 3) rfl _ rfl 53 cs (0, 0) _ (heap_alloc_new _ _) Yba.underlying53 rfl HK.out.1 ?_
          | (go_at_call 12; refine (CA.out _).mono ?_; rintro e w2 ⟨rfl, o, rfl⟩))
        go_ret
        exact ⟨rfl, (hb1.alloc hws _).alloc (by simp; omega) _⟩
end Go.Proofs.Ybulkapkw
