/-
  LawS2050AAwait: the walk of the law: the map is filled, the last entries are counted, AwaitReports is asked, the map is looked up again.
-/
import Derived.Test.YbulkapkwAwait
import Derived.Test.YbulkapkwPlain
import Derived.RegionTactic
import Derived.BigRegion
import Derived.Deep.QuietTactic
import Derived.BigQuiet
namespace Go.Proofs.Ybulkapkw
open Go Go.RowKit Go.Maps Go.Conc

theorem mk0 (w : World) : (Instr.makeChan 25 (.int .i64 0)).run Yba.prog w = .ok (.chan (some w.heap.size)) (w.alloc (.chan 0 #[] false 0 0 false)) := by
  have h : (Yba.prog.info? 27).map (·.bytes) = some 0 := by kernel_rfl
  obtain ⟨i, hi, hb⟩ := Option.map_eq_some_iff.1 h
  simpa using run_makeChan (P := Yba.prog) (w := w) Yba.underlying25 hi .i64 0 (by omega) (by rw [hb]; omega)

/-- The receiver's block, as the law's first loop keeps it. -/
structure Ivs (V m ch : Nat) (w : World) : Prop where
  v1 : w.cell? ⟨V, 1, none⟩ = some (.int .i32 0)
  v3 : w.cell? ⟨V, 3, none⟩ = some (.map (some m))
  v4 : w.cell? ⟨V, 4, none⟩ = some (.chan (some ch))
  z1 : w.frozen? ⟨V, 1, none⟩ = false
  hch : w.heap[ch]? = some (.chan 0 #[] false 0 0 false)
  n1 : m ≠ V
  n2 : m ≠ ch
theorem Ivs.keep {V m ch : Nat} {w w' : World} (h : Ivs V m ch w) (hV : w'.heap[V]? = w.heap[V]?) (hc : w'.heap[ch]? = w.heap[ch]?) : Ivs V m ch w' :=
  ⟨(World.cell?_of_block (w := w) hV).trans h.v1, (World.cell?_of_block (w := w) hV).trans h.v3, (World.cell?_of_block (w := w) hV).trans h.v4, (World.frozen?_of_block (w := w) hV).trans h.z1, hc.trans h.hch, h.n1, h.n2⟩
theorem Ivs.grown {V m ch : Nat} {w w' : World} (h : Ivs V m ch w) (hg : w.grownBy w' (some m)) : Ivs V m ch w' :=
  h.keep (hg.block V (World.block_lt_of_cell? _ _ h.v1) (fun e => h.n1 (Option.some.inj e).symm)) (hg.block ch (lt_of_heap h.hch) (fun e => h.n2 (Option.some.inj e).symm))
theorem Ivs.below {V m ch : Nat} {w w' : World} (h : Ivs V m ch w) (hb : Below w.heap.size w w') : Ivs V m ch w' :=
  h.keep (hb.block V (World.block_lt_of_cell? _ _ h.v1)) (hb.block ch (lt_of_heap h.hch))

theorem law_long (a : Option Addr) (len cap : Nat) (w : World) (h : 256 < len) :
    Calls Yba.prog 3 #[.slice a len cap] w fun e w' => e = .returned (.bool true) ∧ Below w.heap.size w w' := by
  go_enter Yba.func3, Yba.ntmps3
  go_wp2
  go_ret
  exact ⟨rfl, Below.refl _ _⟩

/-- A channel that was just made, closed. -/
theorem close_new (w : World) (ats : Array TypeId) (ty : TypeId) :
    (Builtin.close_ ats ty #[.chan (some w.heap.size)]).run Yba.prog (w.alloc (.chan 0 #[] false 0 0 false)) = .ok (.tuple #[]) (w.alloc (.chan 0 #[] true 0 0 false)) := by
  rw [run_close_open ats ty (heap_alloc_new w (.chan 0 #[] false 0 0 false))]
  congr 1
  simp only [World.alloc]
  congr 1
  apply Array.ext_getElem?
  intro i
  rw [Array.getElem?_setIfInBounds]
  by_cases hi : w.heap.size = i
  · subst hi; simp
  · rw [if_neg hi, Array.getElem?_push, Array.getElem?_push, if_neg (fun e => hi e.symm), if_neg (fun e => hi e.symm)]

theorem pre_of {R : Value → Option (DataW Unit × List MemPlace)} {V m ch n : Nat} {D : DataW Unit} {w : World} (hown : w.ownsMap Yba.prog 9 R m n D) (HI : Ivs V m ch w) :
    Pre R V (w.heap.size + 1) m n ch w.heap.size D ((w.alloc (.chan 0 #[] true 0 0 false)).alloc (.cells #[.chan (some w.heap.size), .int .i64 0] 57)) := by
  have hb : Below w.heap.size w ((w.alloc (.chan 0 #[] true 0 0 false)).alloc (.cells #[.chan (some w.heap.size), .int .i64 0] 57)) := ((Below.refl _ _).alloc (Nat.le_refl _) _).alloc (by simp) _
  have HI2 := HI.below hb
  have hV : V < w.heap.size := World.block_lt_of_cell? _ _ HI.v1
  exact ⟨own_below hown hb (lt_of_own hown), HI2.v1, HI2.v3, HI2.v4, HI2.z1, by go_simp, by go_simp, by go_simp, HI2.hch, by rw [Below.heap_alloc _ _ _ (by simp)]; exact heap_alloc_new _ _, by omega⟩

/-- The look-up at a last entry's key. -/
theorem look {R : Value → Option (DataW Unit × List MemPlace)} (hR : Reader R) {m n len i : Nat} {S : Nat → ByteArray} {A B C : Nat → Bool} {w : World} (hown : w.ownsMap Yba.prog 9 R m n (DD S A B C len)) (hi : i < len) (hl : lastB S len i = true) (hs : (S i).size ≤ maxLen) :
    (Instr.lookup 24 (.map (some m)) (.string (S i)) true).run Yba.prog w = .ok (.tuple #[progV (A i) (B i) (C i), .bool true]) w := by
  obtain ⟨v, ps, hrun, hv⟩ := hown.look_ok law9 Yba.underlying24 (Yba.zeroValue53 w) (hR.made false false false) (WideMaps.keyOf_string_mk Yba.underlying9 hs)
  have ha := last_at (A := A) (B := B) (C := C) hi hl
  rw [show Lit.string (S i).data.toList = keyL S i from rfl, ha.1] at hv
  rw [show Lit.string (S i).data.toList = keyL S i from rfl, ha.2] at hrun
  obtain ⟨a, b, c, rfl, hz⟩ := hR.inv v _ hv
  simp only [Prod.mk.injEq] at hz
  obtain ⟨e1, e2, e3⟩ := progD_inj hz.1
  rw [e1, e2, e3]
  exact hrun

def IsEnts (w : World) (a : Option Addr) (len : Nat) (S : Nat → ByteArray) (A B C : Nat → Bool) : Prop :=
  len = 0 ∨ ∃ b off, a = some ⟨b, off, none⟩ ∧ Ents w b off len S A B C

/-- A store at the entry's key, at the end of a region that draws. -/
theorem upd {R : Value → Option (DataW Unit × List MemPlace)} (hR : Reader R) {m k : Nat} {S : Nat → ByteArray} {A B C : Nat → Bool} {w : World} (hown : w.ownsMap Yba.prog 9 R m k (DD S A B C k)) (hk : k ≤ 256) (hs : (S k).size ≤ maxLen) :
    ∃ w', (Instr.mapUpdate 24 (.map (some m)) (.string (S k)) (progV (A k) (B k) (C k))).run Yba.prog w = .ok () w' ∧ w'.ownsMap Yba.prog 9 R m (k + 1) (DD S A B C (k + 1)) ∧ w.grownBy w' (some m) :=
  hown.update law9 Yba.underlying24 (by unfold maxLen; omega) (WideMaps.keyOf_string_mk Yba.underlying9 hs) (hR.made _ _ _)

set_option maxRecDepth 100000 in
set_option maxHeartbeats 2000000 in
theorem law_walk (R : Value → Option (DataW Unit × List MemPlace)) (hR : Hid (Reader R)) (a : Option Addr) (len cap : Nat) (S : Nat → ByteArray) (A B C : Nat → Bool) (w : World) (hlen : len ≤ 256) (HE : Hid (IsEnts w a len S A B C)) (hs : Hid (∀ i, i < len → (S i).size ≤ maxLen)) :
    Calls Yba.prog 3 #[.slice a len cap] w fun e w' => e = .returned (.bool true) ∧ Below w.heap.size w w' := by
  have hmm := @run_makeMap Yba.prog
  have hmc := mk0
  go_enter Yba.func3, Yba.ntmps3
  go_wp2
  go_loopw [24] (fun i wr => ∃ k : Nat, k ≤ len ∧ i = .int .i64 k ∧ Hid (wr.ownsMap Yba.prog 9 R w.heap.size k (DD S A B C k)) ∧ Below w.heap.size w wr ∧ Ivs (w.heap.size + 1 + 1) w.heap.size (w.heap.size + 1) wr) (fun i _ => len - (intOf i).toNat)
  case atStart =>
    refine ⟨0, Nat.zero_le _, rfl, ?_, (((Below.refl _ _).alloc (Nat.le_refl _) _).alloc (by simp) _).alloc (by simp; omega) _, ⟨by go_simp, by go_simp, by go_simp, by go_simp, ?_, by omega, by omega⟩⟩
    · exact ((World.ownsMap_made _ _ _ _).alloc _).alloc _
    · rw [Below.heap_alloc _ _ _ (by simp)]
      have := heap_alloc_new (w.alloc (.map #[] 0)) (.chan 0 #[] false 0 0 false)
      simpa only [World.size_alloc] using this
  case round =>
    obtain ⟨k, hk, rfl, hown, hbel, HI⟩ := hrel
    by_cases hlt : k < len
    · obtain ⟨b, off, rfl, HEn⟩ : ∃ b off, a = some ⟨b, off, none⟩ ∧ Ents w b off len S A B C := by
        rcases HE.out with h | h
        · omega
        · exact h
      have HEr := HEn.below hbel HEn.lt
      have g0 := HEr.c0 k hlt
      have g1 := HEr.c1 k hlt
      have g2 := HEr.c2 k hlt
      have g3 := HEr.c3 k hlt
      have b0 : (k : Int) < (len : Int) := by omega
      have c3 := HI.v3
      have hVlt : w.heap.size + 1 + 1 < wr.heap.size := World.block_lt_of_cell? _ _ c3
      obtain ⟨w2, hrun, hown2, hg2⟩ := upd hR.out (w := (wr.alloc (.cells #[.string (S k), .bool (A k), .bool (B k), .bool (C k)] 38)).drew) (show World.ownsMap _ Yba.prog 9 R w.heap.size k (DD S A B C k) from (hown.out.alloc _ : (wr.alloc (.cells #[.string (S k), .bool (A k), .bool (B k), .bool (C k)] 38)).ownsMap Yba.prog 9 R w.heap.size k (DD S A B C k))) (by omega) (hs.out k hlt)
      have HO2 : Hid (w2.ownsMap Yba.prog 9 R w.heap.size (k + 1) (DD S A B C (k + 1))) := hown2
      simp only [progV, progCells] at hrun
      clear hown2 HEn
      go_wp2
      go_region
      go_wp2
      have hba : Below wr.heap.size wr (wr.alloc (.cells #[.string (S k), .bool (A k), .bool (B k), .bool (C k)] 38)).drew := ((Below.refl _ _).alloc (Nat.le_refl _) _).drew
      have hb2 : Below w.heap.size w w2 := Below.grown (hbel.trans (hba.mono hbel.size)) hg2 (by have := hbel.size; simp; omega) (fun j hj => by cases hj; exact Nat.le_refl _)
      have HI2 := (HI.below hba).grown hg2
      go_roundw
      case rel => exact ⟨k + 1, by omega, by go_num, HO2, hb2, HI2⟩
      case measure => simp [intOf]; omega
    · obtain rfl : k = len := by omega
      have HB0 : Hid (Below w.heap.size w wr) := hbel
      have HI0 : Hid (Ivs (w.heap.size + 1 + 1) w.heap.size (w.heap.size + 1) wr) := HI
      clear hbel HI
      go_wp2
      obtain ⟨w1, hw1⟩ : ∃ w1, w1 = wr := ⟨_, rfl⟩
      subst hw1
      go_loopw [6, 7, 8, 44] (fun want dist _ i wr => ∃ j n : Nat, j ≤ k ∧ i = .int .i64 j ∧ want = .bool (wantB S A C k j) ∧ dist = .int .i64 (cnt S k j : Nat) ∧ wr = w1.drewN n) (fun _ _ _ i _ => k - (intOf i).toNat)
      case atStart => exact ⟨0, 0, Nat.zero_le _, rfl, rfl, rfl, rfl⟩
      case round =>
        obtain ⟨j, n, hj, rfl, rfl, rfl, rfl⟩ := hrel
        by_cases hjl : j < k
        · obtain ⟨b, off, rfl, HEn⟩ : ∃ b off, a = some ⟨b, off, none⟩ ∧ Ents w b off k S A B C := by
            rcases HE.out with h | h
            · omega
            · exact h
          have HEr : Ents (w1.drewN n) b off k S A B C := by
            obtain ⟨e0, e1, e2, e3, e4⟩ := HEn.below HB0.out HEn.lt
            exact ⟨e0, e1, e2, e3, e4⟩
          have g1 : w1.cell? ⟨b, off + j * 4 + 1, none⟩ = some (.bool (A j)) := HEr.c1 j hjl
          have g3 : w1.cell? ⟨b, off + j * 4 + 3, none⟩ = some (.bool (C j)) := HEr.c3 j hjl
          have b0 : (j : Int) < (k : Int) := by omega
          have CL := hidden (alast_any b off k cap S A B C j (w1.drewN n) hlen hjl HEr)
          have hcl : cnt S k j ≤ j := Nat.le_trans (List.length_filter_le _ _) (by simp)
          have hcs := cnt_succ (S := S) k j
          have hws := want_succ (S := S) (A := A) (C := C) k j
          generalize cnt S k j = cj at *
          cases hl : lastB S k j with
          | false =>
            rw [hl] at CL hcs hws
            simp only [Bool.false_eq_true, if_false, Nat.add_zero, Bool.not_false, Bool.true_or, Bool.and_true] at hcs hws
            have HS := hidden (And.intro hcs hws)
            clear hcs hws hl HEr HEn g1 g3
            go_wp2_with (go_at_call 6; refine CL.out.mono ?_; rintro e w' ⟨rfl, n2, rfl⟩)
            go_roundw
            case rel => exact ⟨j + 1, _, by omega, by go_num, by rw [HS.out.2], by rw [HS.out.1], rfl⟩
            case measure => simp [intOf]; omega
          | true =>
            rw [hl] at CL hcs hws
            simp only [if_true, Bool.not_true, Bool.false_or] at hcs hws
            cases hA : A j <;> cases hC : C j
            all_goals
              rw [hA] at g1 hws
              rw [hC] at g3 hws
              simp only [Bool.not_true, Bool.not_false, Bool.and_true, Bool.and_false] at hws
              have HS := hidden (And.intro hcs hws)
              clear hcs hws hl HEr HEn hA hC
              go_wp2_with (go_at_call 6; refine CL.out.mono ?_; rintro e w' ⟨rfl, n2, rfl⟩)
              go_roundw
              case rel => exact ⟨j + 1, _, by omega, by go_num, by rw [HS.out.2], by rw [HS.out.1]; go_num, rfl⟩
              case measure => simp [intOf]; omega
        · obtain rfl : j = k := by omega
          have HOW : Hid ((w1.drewN n).ownsMap Yba.prog 9 R w.heap.size j (DD S A B C j)) := hown.out
          have HBW : Hid (Below w.heap.size w (w1.drewN n)) := ⟨HB0.out.os, HB0.out.tape, HB0.out.output, HB0.out.size, HB0.out.block⟩
          have HIW : Hid (Ivs (w.heap.size + 1 + 1) w.heap.size (w.heap.size + 1) (w1.drewN n)) := HI0.out.keep rfl rfl
          clear hown HB0 HI0
          obtain ⟨w3, hw3⟩ : ∃ w3, w3 = w1.drewN n := ⟨_, rfl⟩
          rw [← hw3] at HOW HBW HIW ⊢
          clear hw3
          have hcl := close_new w3
          have HPre := hidden (pre_of HOW.out HIW.out)
          have hb3 : Below w.heap.size w ((w3.alloc (.chan 0 #[] true 0 0 false)).alloc (.cells #[.chan (some w3.heap.size), .int .i64 0] 57)) := (HBW.out.alloc HBW.out.size _).alloc (by have := HBW.out.size; simp; omega) _
          have HB3 := hidden hb3
          have h3s := HBW.out.size
          have HSZ := hidden (size_DD (S := S) (A := A) (B := B) (C := C) j)
          have HQ := hidden (fun h => quiet_of (S := S) (A := A) (B := B) (C := C) (len := j) h)
          have HWt := hidden (fun h => waits_of (S := S) (A := A) (B := B) (C := C) (len := j) h)
          clear hb3 HOW HIW HBW
          generalize wantB S A C j j = wt at *
          cases wt
          · have HW2 := hidden (HWt.out rfl)
            clear HQ HWt
            go_wp2_with fail
            refine (reports_false R hR w.heap.size _ _ _ _ _ _ _ _ HPre.out (by omega) (by omega) HW2.out).mono ?_
            rintro e w4 ⟨rfl, hb4, hown4, hv3, hx1⟩
            have hsz := HSZ.out
            go_wp2_with (at_len; refine wpList_len_own _ rfl _ 24 rfl 9 53 Yba.underlying24 _ _ _ _ rfl hown4 ?_)
            have HB4 := hidden (HB3.out.trans hb4)
            have HO4 := hidden hown4
            have HV4 := hidden hv3
            clear hb4 hown4 hv3 hx1 hsz HPre HB3 HSZ hcl hmm hmc
            go_loopw [12, 105] (fun _ i wr => ∃ jj : Nat, jj ≤ j ∧ i = .int .i64 jj ∧ Below w4.heap.size w4 wr) (fun _ i _ => j - (intOf i).toNat)
            case atStart => exact ⟨0, Nat.zero_le _, rfl, Below.refl _ _⟩
            case round =>
              obtain ⟨jj, hjj, rfl, hbr⟩ := hrel
              by_cases hjl : jj < j
              · obtain ⟨b, off, rfl, HEn⟩ : ∃ b off, a = some ⟨b, off, none⟩ ∧ Ents w b off j S A B C := by
                  rcases HE.out with h | h
                  · omega
                  · exact h
                have HEr := (HEn.below HB4.out HEn.lt).below hbr (by have := HEn.lt; have := HB4.out.size; omega)
                have hv3r := (hbr.cell (World.block_lt_of_cell? _ _ HV4.out)).trans HV4.out
                have hor := own_below HO4.out hbr (lt_of_own HO4.out)
                have g0 := HEr.c0 jj hjl
                have g1 := HEr.c1 jj hjl
                have g2 := HEr.c2 jj hjl
                have g3 := HEr.c3 jj hjl
                have b0 : (jj : Int) < (j : Int) := by omega
                have CL := hidden (alast_any b off j cap S A B C jj wr hlen hjl HEr)
                cases hl : lastB S j jj with
                | false =>
                  rw [hl] at CL
                  clear hl HEr HEn g0 g1 g2 g3 hor hv3r
                  go_wp2_with (go_at_call 6; refine CL.out.mono ?_; rintro e w' ⟨rfl, n2, rfl⟩)
                  go_roundw
                  case rel => exact ⟨jj + 1, by omega, by go_num, hbr.os, hbr.tape, hbr.output, hbr.size, hbr.block⟩
                  case measure => simp [intOf]; omega
                | true =>
                  rw [hl] at CL
                  have LK := fun (W : World) (h : W.ownsMap Yba.prog 9 R w.heap.size j (DD S A B C j)) => look hR.out h hjl hl (hs.out jj hjl)
                  generalize A jj = aj at *
                  generalize B jj = bj at *
                  generalize C jj = cj at *
                  have HLK := hidden LK
                  clear LK hl HEr HEn
                  go_upto_region 35 with (go_at_call 6; refine CL.out.mono ?_; rintro e w' ⟨rfl, n2, rfl⟩)
                  obtain ⟨w5, hw5⟩ : ∃ w5, w5 = wr.drewN n2 := ⟨_, rfl⟩
                  have hb5 : Below w4.heap.size w4 w5 := by rw [hw5]; exact ⟨hbr.os, hbr.tape, hbr.output, hbr.size, hbr.block⟩
                  have hor5 : w5.ownsMap Yba.prog 9 R w.heap.size j (DD S A B C j) := by rw [hw5]; exact hor
                  have v5 : w5.cell? ⟨w.heap.size + 1 + 1, 3, none⟩ = some (.map (some w.heap.size)) := by rw [hw5]; exact hv3r
                  have k0 : w5.cell? ⟨b, off + jj * 4, none⟩ = some (.string (S jj)) := by rw [hw5]; exact g0
                  have k1 : w5.cell? ⟨b, off + jj * 4 + 1, none⟩ = some (.bool aj) := by rw [hw5]; exact g1
                  have k2 : w5.cell? ⟨b, off + jj * 4 + 2, none⟩ = some (.bool bj) := by rw [hw5]; exact g2
                  have k3 : w5.cell? ⟨b, off + jj * 4 + 3, none⟩ = some (.bool cj) := by rw [hw5]; exact g3
                  have lb : b < w5.heap.size := World.block_lt_of_cell? _ _ k0
                  have lv : w.heap.size + 1 + 1 < w5.heap.size := World.block_lt_of_cell? _ _ v5
                  rw [← hw5]
                  have hl1 := HLK.out w5.drew hor5
                  have hl2 := HLK.out (w5.alloc (.cells (progCells false false false) 53)).drew (show World.ownsMap _ Yba.prog 9 R w.heap.size j (DD S A B C j) from (hor5.alloc _ : (w5.alloc (.cells (progCells false false false) 53)).ownsMap Yba.prog 9 R w.heap.size j (DD S A B C j)))
                  have hst := store_cells_drew w5 (progCells false false false) (progCells aj bj cj) 53 rfl (progCells_one aj bj cj)
                  have hcz := progCells_size aj bj cj
                  have p0 := progCells_g0 aj bj cj
                  have p1 := progCells_g1 aj bj cj
                  have p2 := progCells_g2 aj bj cj
                  simp only [progV] at hl1 hl2
                  rw [show progCells false false false = #[.bool false, .bool false, .bool false, .string ⟨#[]⟩, .int .u64 0, .int .i64 0, .pointer none, .int .u64 0, .int .i64 0, .pointer none, .string ⟨#[]⟩, .string ⟨#[]⟩, .bool false, .slice none 0 0, .string ⟨#[]⟩, .string ⟨#[]⟩, .slice none 0 0, .pointer none, .int .i64 0, .bool false, .pointer none] from rfl] at hl2 hst
                  generalize progCells aj bj cj = cs at *
                  clear hw5 hor hv3r g0 g1 g2 g3 hbr HLK CL
                  go_region
                  clear hl1 hl2 hst v5 k0
                  go_wp2
                  go_quiet (fail)
                  go_wp2
                  go_roundw
                  case rel =>
                    have hh := hb5.alloc hb5.size (.cells cs 53)
                    exact ⟨jj + 1, by omega, by go_num, hh.os, hh.tape, hh.output, hh.size, hh.block⟩
                  case measure => simp [intOf]; omega
              · go_wp2
                go_ret
                exact ⟨rfl, HB4.out.trans (hbr.mono HB4.out.size)⟩
          · have HW2 := hidden (HQ.out rfl)
            clear HQ HWt
            go_wp2_with fail
            refine (reports_true R hR w.heap.size _ _ _ _ _ _ _ _ HPre.out (by omega) HW2.out).mono ?_
            rintro e w4 ⟨rfl, hb4, hown4, hv3, hx1⟩
            have hsz := HSZ.out
            go_wp2_with (at_len; refine wpList_len_own _ rfl _ 24 rfl 9 53 Yba.underlying24 _ _ _ _ rfl hown4 ?_)
            have HB4 := hidden (HB3.out.trans hb4)
            have HO4 := hidden hown4
            have HV4 := hidden hv3
            clear hb4 hown4 hv3 hx1 hsz HPre HB3 HSZ hcl hmm hmc
            go_loopw [12, 105] (fun _ i wr => ∃ jj : Nat, jj ≤ j ∧ i = .int .i64 jj ∧ Below w4.heap.size w4 wr) (fun _ i _ => j - (intOf i).toNat)
            case atStart => exact ⟨0, Nat.zero_le _, rfl, Below.refl _ _⟩
            case round =>
              obtain ⟨jj, hjj, rfl, hbr⟩ := hrel
              by_cases hjl : jj < j
              · obtain ⟨b, off, rfl, HEn⟩ : ∃ b off, a = some ⟨b, off, none⟩ ∧ Ents w b off j S A B C := by
                  rcases HE.out with h | h
                  · omega
                  · exact h
                have HEr := (HEn.below HB4.out HEn.lt).below hbr (by have := HEn.lt; have := HB4.out.size; omega)
                have hv3r := (hbr.cell (World.block_lt_of_cell? _ _ HV4.out)).trans HV4.out
                have hor := own_below HO4.out hbr (lt_of_own HO4.out)
                have g0 := HEr.c0 jj hjl
                have g1 := HEr.c1 jj hjl
                have g2 := HEr.c2 jj hjl
                have g3 := HEr.c3 jj hjl
                have b0 : (jj : Int) < (j : Int) := by omega
                have CL := hidden (alast_any b off j cap S A B C jj wr hlen hjl HEr)
                cases hl : lastB S j jj with
                | false =>
                  rw [hl] at CL
                  clear hl HEr HEn g0 g1 g2 g3 hor hv3r
                  go_wp2_with (go_at_call 6; refine CL.out.mono ?_; rintro e w' ⟨rfl, n2, rfl⟩)
                  go_roundw
                  case rel => exact ⟨jj + 1, by omega, by go_num, hbr.os, hbr.tape, hbr.output, hbr.size, hbr.block⟩
                  case measure => simp [intOf]; omega
                | true =>
                  rw [hl] at CL
                  have LK := fun (W : World) (h : W.ownsMap Yba.prog 9 R w.heap.size j (DD S A B C j)) => look hR.out h hjl hl (hs.out jj hjl)
                  generalize A jj = aj at *
                  generalize B jj = bj at *
                  generalize C jj = cj at *
                  have HLK := hidden LK
                  clear LK hl HEr HEn
                  go_upto_region 35 with (go_at_call 6; refine CL.out.mono ?_; rintro e w' ⟨rfl, n2, rfl⟩)
                  obtain ⟨w5, hw5⟩ : ∃ w5, w5 = wr.drewN n2 := ⟨_, rfl⟩
                  have hb5 : Below w4.heap.size w4 w5 := by rw [hw5]; exact ⟨hbr.os, hbr.tape, hbr.output, hbr.size, hbr.block⟩
                  have hor5 : w5.ownsMap Yba.prog 9 R w.heap.size j (DD S A B C j) := by rw [hw5]; exact hor
                  have v5 : w5.cell? ⟨w.heap.size + 1 + 1, 3, none⟩ = some (.map (some w.heap.size)) := by rw [hw5]; exact hv3r
                  have k0 : w5.cell? ⟨b, off + jj * 4, none⟩ = some (.string (S jj)) := by rw [hw5]; exact g0
                  have k1 : w5.cell? ⟨b, off + jj * 4 + 1, none⟩ = some (.bool aj) := by rw [hw5]; exact g1
                  have k2 : w5.cell? ⟨b, off + jj * 4 + 2, none⟩ = some (.bool bj) := by rw [hw5]; exact g2
                  have k3 : w5.cell? ⟨b, off + jj * 4 + 3, none⟩ = some (.bool cj) := by rw [hw5]; exact g3
                  have lb : b < w5.heap.size := World.block_lt_of_cell? _ _ k0
                  have lv : w.heap.size + 1 + 1 < w5.heap.size := World.block_lt_of_cell? _ _ v5
                  rw [← hw5]
                  have hl1 := HLK.out w5.drew hor5
                  have hl2 := HLK.out (w5.alloc (.cells (progCells false false false) 53)).drew (show World.ownsMap _ Yba.prog 9 R w.heap.size j (DD S A B C j) from (hor5.alloc _ : (w5.alloc (.cells (progCells false false false) 53)).ownsMap Yba.prog 9 R w.heap.size j (DD S A B C j)))
                  have hst := store_cells_drew w5 (progCells false false false) (progCells aj bj cj) 53 rfl (progCells_one aj bj cj)
                  have hcz := progCells_size aj bj cj
                  have p0 := progCells_g0 aj bj cj
                  have p1 := progCells_g1 aj bj cj
                  have p2 := progCells_g2 aj bj cj
                  simp only [progV] at hl1 hl2
                  rw [show progCells false false false = #[.bool false, .bool false, .bool false, .string ⟨#[]⟩, .int .u64 0, .int .i64 0, .pointer none, .int .u64 0, .int .i64 0, .pointer none, .string ⟨#[]⟩, .string ⟨#[]⟩, .bool false, .slice none 0 0, .string ⟨#[]⟩, .string ⟨#[]⟩, .slice none 0 0, .pointer none, .int .i64 0, .bool false, .pointer none] from rfl] at hl2 hst
                  generalize progCells aj bj cj = cs at *
                  clear hw5 hor hv3r g0 g1 g2 g3 hbr HLK CL
                  go_region
                  clear hl1 hl2 hst v5 k0
                  go_wp2
                  go_quiet (fail)
                  go_wp2
                  go_roundw
                  case rel =>
                    have hh := hb5.alloc hb5.size (.cells cs 53)
                    exact ⟨jj + 1, by omega, by go_num, hh.os, hh.tape, hh.output, hh.size, hh.block⟩
                  case measure => simp [intOf]; omega
              · go_wp2
                go_ret
                exact ⟨rfl, HB4.out.trans (hbr.mono HB4.out.size)⟩
end Go.Proofs.Ybulkapkw
