/-
  LawS2054BOrder: the walk of the law.
-/
import Derived.Test.YbulkapnaInit
namespace Go.Proofs.Ybulkapna
open Go Go.RowKit

def IsBytes (w : World) (a : Option Addr) (len : Nat) (D : Nat → Nat) : Prop :=
  len = 0 ∨ ∃ b off, a = some ⟨b, off, none⟩ ∧ b < w.heap.size ∧ ∀ i, i < len → w.cell? ⟨b, off + i, none⟩ = some (.int .u8 (D i : Nat))

theorem info4 : (Yba.prog.info? 4).map (fun i => (i.zero, i.size, i.bytes)) = some (some (.bool false), 1, 1) := by kernel_rfl
theorem make_bools (n : Nat) (hn : n ≤ 256) : ∃ C : Array Value, (∀ w : World, (Instr.makeSlice 22 (.int .i64 n) (.int .i64 n)).run Yba.prog w = .ok (.slice (some ⟨w.heap.size, 0, none⟩) n n) (w.alloc (.cells C 4))) ∧ ∀ i, i < n → C[i]? = some (.bool false) := by
  obtain ⟨i0, hi, hz0, hz1, hz2⟩ := info_parts info4
  refine ⟨madeCells #[.bool false] n, fun w => ?_, fun i hi => ?_⟩
  · have := run_make (P := Yba.prog) w 22 4 i0 _ Yba.underlying22 hi hz0 .i64 .i64 n n (by omega) (by omega) (by rw [hz2]; omega) (by omega)
    rw [hz1] at this
    simpa [Value.cells] using this
  · simp only [madeCells, Array.getElem?_map]
    rw [Array.getElem?_eq_getElem (by simpa using hi)]
    simp [Nat.mod_one]

section
variable {F q len cap bs : Nat} {O : Nat → Option Obj} {a : Option Addr} {lk : Int} {rd : Nat → Bool} {nx en ln : Nat} {lv : Value} {w0 w : World}
/-- A new block behind the Sequence, the log still nil. -/
theorem Sq.more (h : Sq F q len cap (q + 5) O a lk rd nx en ln (.slice none 0 0) w0 w) (hq : q = w0.heap.size) (hs : w.heap.size = q + 5) (o : Obj) : Sq F q len cap (q + 6) (fun _ => some o) a lk rd nx en ln (.slice none 0 0) w0 (w.alloc o) := by
  have hb : ∀ i, i < q + 5 → (w.alloc o).heap[i]? = w.heap[i]? := fun i hi => Below.heap_alloc _ _ _ (by omega)
  have hrow := h.row
  have hn : ln = 0 := by
    rcases hrow.2 with ⟨-, h0⟩ | ⟨g, cap, cur, e, -⟩
    · exact h0
    · cases e
  subst hn
  have h2 := h.keep (w' := w.alloc o) hb (ln' := 0) (World.ownsRow_nil _ _ _ _) (h.bel.alloc (by omega) _) (by simp; omega)
  exact { h2 with
    row := World.ownsRow_nil _ _ _ _
    obj := fun i h1 h3 => by
      obtain rfl : i = w.heap.size := by omega
      exact heap_alloc_new _ _
    hbs := by omega
    size := by simp; omega }
theorem Sq.mark {R : Array Value} (h : Sq F q len cap (q + 6) (fun _ => some (.cells R 4 (0, 0))) a lk rd nx en ln lv w0 w) (p : Nat) (v : Value) :
    Sq F q len cap (q + 6) (fun _ => some (.cells (R.setIfInBounds p v) 4 (0, 0))) a lk rd nx en ln lv w0 (w.setCell ⟨q + 5, p, none⟩ v) := by
  have c : ∀ b o, b < q + 5 → (w.setCell ⟨q + 5, p, none⟩ v).cell? ⟨b, o, none⟩ = w.cell? ⟨b, o, none⟩ := fun b o hb' => World.cell?_of_block (w := w) (Below.heap_setCell _ _ _ _ (by simp; omega))
  have f : ∀ b o, b < q + 5 → (w.setCell ⟨q + 5, p, none⟩ v).frozen? ⟨b, o, none⟩ = w.frozen? ⟨b, o, none⟩ := fun b o hb' => World.frozen?_of_block (w := w) (Below.heap_setCell _ _ _ _ (by simp; omega))
  exact ⟨(c _ _ (by omega)).trans h.ca, (c _ _ (by omega)).trans h.cn, (c _ _ (by omega)).trans h.cl, (f _ _ (by omega)).trans h.zl, (c _ _ (by omega)).trans h.s0, (c _ _ (by omega)).trans h.s1, (c _ _ (by omega)).trans h.s2, (c _ _ (by omega)).trans h.s4, (c _ _ (by omega)).trans h.s5,
   (f _ _ (by omega)).trans h.z2, (f _ _ (by omega)).trans h.z4, (f _ _ (by omega)).trans h.z5, fun i hi => (c _ _ (by omega)).trans (h.rdy i hi), fun i => (f _ _ (by omega)).trans (h.zr i), ownsRow_setCell_below h.row (by simp) _,
   fun i h1 h2 => by
     obtain rfl : i = q + 5 := by omega
     exact heap_setCell_same w (q + 5) p R 4 v (h.obj _ (by omega) (by omega)),
   h.hbs, h.bel.setCell (by simp) _, by simpa using h.size⟩
end

/-- What the law's loop over the calls keeps. -/
structure Iv (len cap s : Nat) (a : Option Addr) (rd : Nat → Bool) (nx : Nat) (lv : Value) (R : Array Value) (w0 w : World) : Prop where
  sq : Sq 5 w0.heap.size len cap (w0.heap.size + 6) (fun _ => some (.cells R 4 (0, 0))) a 0 rd nx (enOf len s nx) nx lv w0 w
  hR : ∀ i, i < len → R[i]? = some (.bool (rd i))
  le : nx ≤ s
  low : ∀ k, k < nx → rd k = true
theorem Iv.cellR {len cap s : Nat} {a : Option Addr} {rd : Nat → Bool} {nx : Nat} {lv : Value} {R : Array Value} {w0 w : World} (h : Iv len cap s a rd nx lv R w0 w) (i : Nat) (hi : i < len) : w.cell? ⟨w0.heap.size + 5, i, none⟩ = some (.bool (rd i)) := by
  rw [cell_of_row _ _ _ _ _ _ (h.sq.obj (w0.heap.size + 5) (Nat.le_refl _) (by omega))]
  exact h.hR i hi

theorem Sq.cellR {F q len cap : Nat} {R : Array Value} {a : Option Addr} {lk : Int} {rd : Nat → Bool} {nx en ln : Nat} {lv : Value} {w0 w : World} (h : Sq F q len cap (q + 6) (fun _ => some (.cells R 4 (0, 0))) a lk rd nx en ln lv w0 w) {p : Nat} {v : Value} (hR : R[p]? = some v) : w.cell? ⟨q + 5, p, none⟩ = some v := by
  rw [cell_of_row _ _ _ _ _ _ (h.obj (q + 5) (Nat.le_refl _) (by omega))]
  exact hR
theorem Sq.frozR {F q len cap : Nat} {R : Array Value} {a : Option Addr} {lk : Int} {rd : Nat → Bool} {nx en ln : Nat} {lv : Value} {w0 w : World} (h : Sq F q len cap (q + 6) (fun _ => some (.cells R 4 (0, 0))) a lk rd nx en ln lv w0 w) (p : Nat) : w.frozen? ⟨q + 5, p, none⟩ = false :=
  frozen_of_row _ _ _ _ _ (h.obj (q + 5) (Nat.le_refl _) (by omega))
theorem Iv.next {len cap s : Nat} {a : Option Addr} {rd : Nat → Bool} {nx : Nat} {lv : Value} {R : Array Value} {w0 w : World} (h : Iv len cap s a rd nx lv R w0 w) {p nx' : Nat} {lv' : Value} {W3 : World} (hS : Sq 5 w0.heap.size len cap (w0.heap.size + 6) (fun _ => some (.cells R 4 (0, 0))) a 0 (setB rd p) nx' (enOf len s nx') nx' lv' w0 W3) (h2 : nx' ≤ s)
    (h3 : ∀ k, nx ≤ k → k < nx' → setB rd p k = true) (hp : p < len) : Iv len cap s a (setB rd p) nx' lv' (R.setIfInBounds p (.bool true)) w0 (W3.setCell ⟨w0.heap.size + 5, p, none⟩ (.bool true)) := by
  refine ⟨hS.mark p _, fun i hi => ?_, h2, fun k hk => ?_⟩
  · have hRp : p < R.size := (Array.getElem?_eq_some_iff.1 (h.hR p hp)).1
    rw [Array.getElem?_setIfInBounds]
    unfold setB
    by_cases e : p = i
    · subst e; simp [hRp]
    · rw [if_neg e, if_neg (fun e2 => e e2.symm)]; exact h.hR i hi
  · by_cases e : nx ≤ k
    · exact h3 k e hk
    · unfold setB
      split
      · rfl
      · exact h.low k (by omega)

theorem want_eq {rd : Nat → Bool} {len s nx k : Nat} (hs : s ≤ len) (hn : nx ≤ s) (hl : ∀ j, j < nx → rd j = true) (ht : nx = s ∨ rd nx = false) (hkl : ∀ j, j < k → rd j = true) (hkt : k = len ∨ rd k = false) : nx = if s < k then s else k := by
  have h1 : nx ≤ k := by
    rcases Nat.lt_or_ge k nx with h | h
    · rcases hkt with e | e
      · omega
      · rw [hl k h] at e; cases e
    · exact h
  rcases ht with e | e
  · split <;> omega
  · have : ¬ nx < k := fun h => by rw [hkl nx h] at e; cases e
    split <;> omega

set_option maxRecDepth 100000 in
set_option maxHeartbeats 1000000 in
theorem order_long (a : Option Addr) (len cap : Nat) (ac : Option Addr) (lc capc : Nat) (w : World) (h : 256 < len ∨ 256 < lc) :
    Calls Yba.prog 3 #[.slice a len cap, .slice ac lc capc] w fun e w' => e = .returned (.bool true) ∧ Below w.heap.size w w' := by
  by_cases h1 : 256 < len
  · have b0 : (256 : Int) < (len : Int) := by omega
    go_enter Yba.func3, Yba.ntmps3
    go_wp2
    go_ret
    exact ⟨rfl, (Below.refl _ _).alloc (Nat.le_refl _) _⟩
  · have b0 : ¬ (256 : Int) < (len : Int) := by omega
    have b1 : (256 : Int) < (lc : Int) := by omega
    go_enter Yba.func3, Yba.ntmps3
    go_wp2
    go_ret
    exact ⟨rfl, (Below.refl _ _).alloc (Nat.le_refl _) _⟩

set_option maxRecDepth 100000 in
set_option maxHeartbeats 2000000 in
theorem order_walk (a : Option Addr) (len cap : Nat) (ac : Option Addr) (lc capc : Nat) (A : Nat → Bool) (D : Nat → Nat) (s : Nat) (w : World) (hlen : len ≤ 256) (hlc : lc ≤ 256) (HA : Hid (IsBools w a len A)) (HD : Hid (IsBytes w ac lc D)) (hd : Hid (∀ i, i < lc → D i ≤ 255)) (HT : Hid (Stop A len s)) :
    Calls Yba.prog 3 #[.slice a len cap, .slice ac lc capc] w fun e w' => e = .returned (.bool true) ∧ Below w.heap.size w w' := by
  obtain ⟨C, hmk, hC⟩ := make_flags len hlen
  obtain ⟨C2, hmk2, hC2⟩ := make_bools len hlen
  have hmf : ∀ (fn : Fn) (first cap : Array Value) (w : World), (Instr.makeFunc fn first cap).run Yba.prog w = .ok (.func fn first cap) w := fun _ _ _ _ => rfl
  have HC2 := hide hC2
  have hsq := Sq.init 5 len cap a C w hC
  have b0 : ¬ (256 : Int) < (len : Int) := by omega
  have b1 : ¬ (256 : Int) < (lc : Int) := by omega
  have HSq := hide hsq
  have hsz0 := Seq0_size 5 len cap a C w
  unfold Seq0 at HSq hsz0
  have HZ := hide hsz0
  clear hsq hC hC2 hsz0
  by_cases h0 : len = 0
  · subst h0
    go_enter Yba.func3, Yba.ntmps3
    go_wp2_with (go_at_call 6; refine (new_c 0 5 _ C hmk _).mono ?_; rintro e w' ⟨rfl, rfl⟩)
    go_ret
    exact ⟨rfl, HSq.out.bel⟩
  · have b2 : ((len : Int) == 0) = false := by simpa using h0
    go_enter Yba.func3, Yba.ntmps3
    go_wp2_with (go_at_call 6; refine (new_c len 5 _ C hmk _).mono ?_; rintro e W1 ⟨rfl, hW1⟩
                 simp only [World.size_alloc] at hW1
                 have HS1 : Hid (Sq 5 w.heap.size len cap (w.heap.size + 5) (fun _ => none) a 0 (fun _ => false) 0 len 0 (.slice none 0 0) w W1) := by rw [hW1]; exact HSq
                 have HZ1 : Hid (W1.heap.size = w.heap.size + 5) := by rw [hW1]; exact HZ
                 have cn := HS1.out.cn
                 have cn2 := (HS1.out.more rfl HZ1.out (.cells C2 4)).cn
                 clear hW1 HSq HZ)
    have HS2 := hide (HS1.out.more rfl HZ1.out (.cells C2 4))
    rw [HZ1.out]
    obtain ⟨W2, hW2⟩ : ∃ W2, W2 = W1.alloc (.cells C2 4) := ⟨_, rfl⟩
    rw [← hW2] at HS2 ⊢
    clear cn2
    clear hW2 HZ1 HS1 cn hmk hmk2 hmf
    have hsl := HT.out.le
    go_loopw [10, 11] (fun st i wr => ∃ k : Nat, k ≤ len ∧ i = .int .i64 k ∧ st = .int .i64 len ∧ Hid (∀ j, j < k → A j = true) ∧ wr = W2) (fun _ i _ => len - (intOf i).toNat)
    case atStart => exact ⟨0, Nat.zero_le _, rfl, rfl, fun j hj => by omega, rfl⟩
    case round =>
      obtain ⟨k, hk, rfl, rfl, HL, rfl⟩ := hrel
      have ca := HS2.out.ca
      have cn := HS2.out.cn
      by_cases hkl : k < len
      · obtain ⟨b, off, rfl, hb, hcell⟩ : ∃ b off, a = some ⟨b, off, none⟩ ∧ b < w.heap.size ∧ ∀ i, i < len → w.cell? ⟨b, off + i, none⟩ = some (.bool (A i)) := by
          rcases HA.out with h | h
          · omega
          · exact h
        have ck : wr.cell? ⟨b, off + k, none⟩ = some (.bool (A k)) := (HS2.out.bel.cell (p := ⟨b, off + k, none⟩) hb).trans (hcell k hkl)
        have b3 : (k : Int) < (len : Int) := by omega
        cases hA : A k
        · rw [hA] at ck
          have HE : Hid (((k : Int) + 1) = (s : Int)) := by have := HT.out.at hkl HL.out hA; exact hide (by omega)
          clear hcell HL hA
          go_wp2
          rw [HE.out]
          clear ck ca cn HE b3
          have HI0 : Hid (Iv len cap s (some ⟨b, off, none⟩) (fun _ => false) 0 (.slice none 0 0) C2 w wr) := ⟨by rw [HT.out.en0]; exact HS2.out, HC2.out, Nat.zero_le _, fun j hj => by omega⟩
          clear HS2 HC2
          go_loopw [13, 14, 15, 16, 17, 54] (fun _ _ _ _ _ i wx => ∃ (c : Nat) (rd : Nat → Bool) (nx : Nat) (lv : Value) (R : Array Value), c ≤ lc ∧ i = .int .i64 c ∧ Hid (Iv len cap s (some ⟨b, off, none⟩) rd nx lv R w wx)) (fun _ _ _ _ _ i _ => lc - (intOf i).toNat)
          case atStart => exact ⟨0, _, 0, _, _, Nat.zero_le _, rfl, HI0⟩
          case round =>
            clear HI0
            obtain ⟨c, rd, nx, lv, R, hc, rfl, HI⟩ := hrel
            by_cases hcl : c < lc
            · obtain ⟨bc, offc, rfl, hbc, hcellc⟩ : ∃ b off, ac = some ⟨b, off, none⟩ ∧ b < w.heap.size ∧ ∀ i, i < lc → w.cell? ⟨b, off + i, none⟩ = some (.int .u8 (D i : Nat)) := by
                rcases HD.out with h | h
                · omega
                · exact h
              have cc : wr.cell? ⟨bc, offc + c, none⟩ = some (.int .u8 (D c : Nat)) := (HI.out.sq.bel.cell (p := ⟨bc, offc + c, none⟩) hbc).trans (hcellc c hcl)
              have b5 : (c : Int) < (lc : Int) := by omega
              have hdc := hd.out c hcl
              have cn := HI.out.sq.cn
              obtain ⟨p, hp⟩ : ∃ p, p = D c % len := ⟨_, rfl⟩
              have hpl : p < len := by rw [hp]; exact Nat.mod_lt _ (by omega)
              have HP : Hid (((D c : Nat) : Int) % (len : Int) = (p : Nat)) := by rw [hp]; exact (Int.natCast_emod _ _).symm
              clear hcellc hp
              have CR := hide (ready5 len cap (w.heap.size + 6) _ (some ⟨b, off, none⟩) rd nx s p lv A w wr hlen HI.out.le HT hpl HA HI.out.sq)
              have b6 : (p : Int) < (len : Int) := by omega
              go_wp2_with (go_at_call 7; rw [HP.out]; refine CR.out.mono ?_; rintro e W3 ⟨rfl, nx', lv', h1, h2, h3, h4, hS⟩
                           have HI4 := hide (HI.out.next hS h2 h3 hpl)
                           have HTOP := hide h4
                           have c5 := hS.cellR (HI.out.hR p hpl)
                           have f5 := hS.frozR p
                           clear hS h1 h2 h3 h4 cc cn)
              clear CR HI c5 f5
              obtain ⟨W4, hW4⟩ : ∃ W4, W4 = W3.setCell ⟨w.heap.size + 5, p, none⟩ (.bool true) := ⟨_, rfl⟩
              rw [← hW4] at HI4 ⊢
              clear hW4
              obtain ⟨av, capv, rfl, hav⟩ := row_form HI4.out.sq.row
              have cl := HI4.out.sq.cl
              have cn := HI4.out.sq.cn
              go_loopw [15] (fun pr wx => ∃ k : Nat, k ≤ len ∧ pr = .int .i64 k ∧ Hid (∀ j, j < k → setB rd p j = true) ∧ wx = W4) (fun pr _ => len - (intOf pr).toNat)
              case atStart => exact ⟨0, Nat.zero_le _, rfl, fun j hj => by omega, rfl⟩
              case round =>
                obtain ⟨k, hk, rfl, HKL, rfl⟩ := hrel
                obtain ⟨W4, hW4⟩ : ∃ W4, W4 = wr := ⟨_, rfl⟩
                subst hW4
                by_cases hkl : k < len
                · have ck := HI4.out.cellR k hkl
                  have b7 : (k : Int) < (len : Int) := by omega
                  cases hr : setB rd p k
                  · rw [hr] at ck
                    have HKT : k = len ∨ setB rd p k = false := .inr hr
                    clear hr
                    have hw := want_eq HT.out.le HI4.out.le HI4.out.low HTOP.out HKL.out HKT
                    by_cases hsk : s < k
                    · rw [if_pos hsk] at hw
                      have b8 : (s : Int) < (k : Int) := by omega
                      obtain rfl : nx' = s := hw
                      go_wp2
                      go_loopw [17] (fun i wx => ∃ y : Nat, y ≤ nx' ∧ i = .int .i64 y ∧ wx = W4) (fun i _ => nx' - (intOf i).toNat)
                      case atStart => exact ⟨0, Nat.zero_le _, rfl, rfl⟩
                      case round =>
                        obtain ⟨y, hy, rfl, rfl⟩ := hrel
                        by_cases hyl : y < nx'
                        · obtain ⟨g, rfl⟩ := hav (by omega)
                          have cy : wr.cell? ⟨g, y, none⟩ = some (.int .i64 (y : Nat)) := by
                            rw [HI4.out.sq.row.cellAt y (by omega)]
                            exact nums_at hyl
                          have b9 : (y : Int) < (nx' : Int) := by omega
                          go_wp2
                          go_roundw
                          case rel => exact ⟨y + 1, by omega, by go_num, trivial⟩
                          case measure => simp [intOf]; omega
                        · obtain rfl : nx' = y := by omega
                          go_wp2
                          go_roundw
                          case rel =>
                            first
                              | exact ⟨c + 1, _, nx', _, _, by omega, by go_num, HI4⟩
                              | ((repeat apply Exists.intro); exact ⟨⟨c + 1, _, nx', _, _, by omega, by go_num, HI4⟩, rfl⟩)
                          case measure => simp [intOf]; omega
                    · rw [if_neg hsk] at hw
                      have b8 : ¬ (s : Int) < (k : Int) := by omega
                      obtain rfl : nx' = k := hw
                      go_wp2
                      go_loopw [17] (fun i wx => ∃ y : Nat, y ≤ nx' ∧ i = .int .i64 y ∧ wx = W4) (fun i _ => nx' - (intOf i).toNat)
                      case atStart => exact ⟨0, Nat.zero_le _, rfl, rfl⟩
                      case round =>
                        obtain ⟨y, hy, rfl, rfl⟩ := hrel
                        by_cases hyl : y < nx'
                        · obtain ⟨g, rfl⟩ := hav (by omega)
                          have cy : wr.cell? ⟨g, y, none⟩ = some (.int .i64 (y : Nat)) := by
                            rw [HI4.out.sq.row.cellAt y (by omega)]
                            exact nums_at hyl
                          have b9 : (y : Int) < (nx' : Int) := by omega
                          go_wp2
                          go_roundw
                          case rel => exact ⟨y + 1, by omega, by go_num, trivial⟩
                          case measure => simp [intOf]; omega
                        · obtain rfl : nx' = y := by omega
                          go_wp2
                          go_roundw
                          case rel =>
                            first
                              | exact ⟨c + 1, _, nx', _, _, by omega, by go_num, HI4⟩
                              | ((repeat apply Exists.intro); exact ⟨⟨c + 1, _, nx', _, _, by omega, by go_num, HI4⟩, rfl⟩)
                          case measure => simp [intOf]; omega
                  · rw [hr] at ck
                    have HKN := hide (fun j (hj : j < k + 1) => show setB rd p j = true from (by
                      by_cases e : j = k
                      · subst e; exact hr
                      · exact HKL.out j (by omega)))
                    clear hr
                    go_wp2
                    go_roundw
                    case rel => exact ⟨k + 1, by omega, by go_num, HKN, trivial⟩
                    case measure => simp [intOf]; omega
                · have b7 : ¬ (k : Int) < (len : Int) := by omega
                  have HKT : k = len ∨ setB rd p k = false := .inl (by omega)
                  have hw := want_eq HT.out.le HI4.out.le HI4.out.low HTOP.out HKL.out HKT
                  by_cases hsk : s < k
                  · rw [if_pos hsk] at hw
                    have b8 : (s : Int) < (k : Int) := by omega
                    obtain rfl : nx' = s := hw
                    go_wp2
                    go_loopw [17] (fun i wx => ∃ y : Nat, y ≤ nx' ∧ i = .int .i64 y ∧ wx = W4) (fun i _ => nx' - (intOf i).toNat)
                    case atStart => exact ⟨0, Nat.zero_le _, rfl, rfl⟩
                    case round =>
                      obtain ⟨y, hy, rfl, rfl⟩ := hrel
                      by_cases hyl : y < nx'
                      · obtain ⟨g, rfl⟩ := hav (by omega)
                        have cy : wr.cell? ⟨g, y, none⟩ = some (.int .i64 (y : Nat)) := by
                          rw [HI4.out.sq.row.cellAt y (by omega)]
                          exact nums_at hyl
                        have b9 : (y : Int) < (nx' : Int) := by omega
                        go_wp2
                        go_roundw
                        case rel => exact ⟨y + 1, by omega, by go_num, trivial⟩
                        case measure => simp [intOf]; omega
                      · obtain rfl : nx' = y := by omega
                        go_wp2
                        go_roundw
                        case rel =>
                          first
                            | exact ⟨c + 1, _, nx', _, _, by omega, by go_num, HI4⟩
                            | ((repeat apply Exists.intro); exact ⟨⟨c + 1, _, nx', _, _, by omega, by go_num, HI4⟩, rfl⟩)
                        case measure => simp [intOf]; omega
                  · rw [if_neg hsk] at hw
                    have b8 : ¬ (s : Int) < (k : Int) := by omega
                    obtain rfl : nx' = k := hw
                    go_wp2
                    go_loopw [17] (fun i wx => ∃ y : Nat, y ≤ nx' ∧ i = .int .i64 y ∧ wx = W4) (fun i _ => nx' - (intOf i).toNat)
                    case atStart => exact ⟨0, Nat.zero_le _, rfl, rfl⟩
                    case round =>
                      obtain ⟨y, hy, rfl, rfl⟩ := hrel
                      by_cases hyl : y < nx'
                      · obtain ⟨g, rfl⟩ := hav (by omega)
                        have cy : wr.cell? ⟨g, y, none⟩ = some (.int .i64 (y : Nat)) := by
                          rw [HI4.out.sq.row.cellAt y (by omega)]
                          exact nums_at hyl
                        have b9 : (y : Int) < (nx' : Int) := by omega
                        go_wp2
                        go_roundw
                        case rel => exact ⟨y + 1, by omega, by go_num, trivial⟩
                        case measure => simp [intOf]; omega
                      · obtain rfl : nx' = y := by omega
                        go_wp2
                        go_roundw
                        case rel =>
                          first
                            | exact ⟨c + 1, _, nx', _, _, by omega, by go_num, HI4⟩
                            | ((repeat apply Exists.intro); exact ⟨⟨c + 1, _, nx', _, _, by omega, by go_num, HI4⟩, rfl⟩)
                        case measure => simp [intOf]; omega
            · go_wp2
              go_ret
              exact ⟨rfl, HI.out.sq.bel⟩
        · rw [hA] at ck
          have HN := hide (fun j (hj : j < k + 1) => show A j = true from (by
            by_cases e : j = k
            · subst e; exact hA
            · exact HL.out j (by omega)))
          clear hcell HL hA
          go_wp2
          go_roundw
          case rel => exact ⟨k + 1, by omega, by go_num, rfl, HN, trivial⟩
          case measure => simp [intOf]; omega
      · obtain rfl : len = k := by omega
        obtain rfl : s = len := HT.out.all HL.out
        clear HL
        go_wp2
        clear ca cn
        have HI0 : Hid (Iv s cap s a (fun _ => false) 0 (.slice none 0 0) C2 w wr) := ⟨by rw [HT.out.en0]; exact HS2.out, HC2.out, Nat.zero_le _, fun j hj => by omega⟩
        clear HS2 HC2
        go_loopw [13, 14, 15, 16, 17, 54] (fun _ _ _ _ _ i wx => ∃ (c : Nat) (rd : Nat → Bool) (nx : Nat) (lv : Value) (R : Array Value), c ≤ lc ∧ i = .int .i64 c ∧ Hid (Iv s cap s a rd nx lv R w wx)) (fun _ _ _ _ _ i _ => lc - (intOf i).toNat)
        case atStart => exact ⟨0, _, 0, _, _, Nat.zero_le _, rfl, HI0⟩
        case round =>
          clear HI0
          obtain ⟨c, rd, nx, lv, R, hc, rfl, HI⟩ := hrel
          by_cases hcl : c < lc
          · obtain ⟨bc, offc, rfl, hbc, hcellc⟩ : ∃ b off, ac = some ⟨b, off, none⟩ ∧ b < w.heap.size ∧ ∀ i, i < lc → w.cell? ⟨b, off + i, none⟩ = some (.int .u8 (D i : Nat)) := by
              rcases HD.out with h | h
              · omega
              · exact h
            have cc : wr.cell? ⟨bc, offc + c, none⟩ = some (.int .u8 (D c : Nat)) := (HI.out.sq.bel.cell (p := ⟨bc, offc + c, none⟩) hbc).trans (hcellc c hcl)
            have b5 : (c : Int) < (lc : Int) := by omega
            have hdc := hd.out c hcl
            have cn := HI.out.sq.cn
            obtain ⟨p, hp⟩ : ∃ p, p = D c % s := ⟨_, rfl⟩
            have hpl : p < s := by rw [hp]; exact Nat.mod_lt _ (by omega)
            have HP : Hid (((D c : Nat) : Int) % (s : Int) = (p : Nat)) := by rw [hp]; exact (Int.natCast_emod _ _).symm
            clear hcellc hp
            have CR := hide (ready5 s cap (w.heap.size + 6) _ a rd nx s p lv A w wr hlen HI.out.le HT hpl HA HI.out.sq)
            have b6 : (p : Int) < (s : Int) := by omega
            go_wp2_with (go_at_call 7; rw [HP.out]; refine CR.out.mono ?_; rintro e W3 ⟨rfl, nx', lv', h1, h2, h3, h4, hS⟩
                         have HI4 := hide (HI.out.next hS h2 h3 hpl)
                         have HTOP := hide h4
                         have c5 := hS.cellR (HI.out.hR p hpl)
                         have f5 := hS.frozR p
                         clear hS h1 h2 h3 h4 cc cn)
            clear CR HI c5 f5
            obtain ⟨W4, hW4⟩ : ∃ W4, W4 = W3.setCell ⟨w.heap.size + 5, p, none⟩ (.bool true) := ⟨_, rfl⟩
            rw [← hW4] at HI4 ⊢
            clear hW4
            obtain ⟨av, capv, rfl, hav⟩ := row_form HI4.out.sq.row
            have cl := HI4.out.sq.cl
            have cn := HI4.out.sq.cn
            go_loopw [15] (fun pr wx => ∃ k : Nat, k ≤ s ∧ pr = .int .i64 k ∧ Hid (∀ j, j < k → setB rd p j = true) ∧ wx = W4) (fun pr _ => s - (intOf pr).toNat)
            case atStart => exact ⟨0, Nat.zero_le _, rfl, fun j hj => by omega, rfl⟩
            case round =>
              obtain ⟨k, hk, rfl, HKL, rfl⟩ := hrel
              obtain ⟨W4, hW4⟩ : ∃ W4, W4 = wr := ⟨_, rfl⟩
              subst hW4
              by_cases hkl : k < s
              · have ck := HI4.out.cellR k hkl
                have b7 : (k : Int) < (s : Int) := by omega
                cases hr : setB rd p k
                · rw [hr] at ck
                  have HKT : k = s ∨ setB rd p k = false := .inr hr
                  clear hr
                  have hw := want_eq HT.out.le HI4.out.le HI4.out.low HTOP.out HKL.out HKT
                  by_cases hsk : s < k
                  · rw [if_pos hsk] at hw
                    have b8 : (s : Int) < (k : Int) := by omega
                    obtain rfl : nx' = s := hw
                    go_wp2
                    go_loopw [17] (fun i wx => ∃ y : Nat, y ≤ nx' ∧ i = .int .i64 y ∧ wx = W4) (fun i _ => nx' - (intOf i).toNat)
                    case atStart => exact ⟨0, Nat.zero_le _, rfl, rfl⟩
                    case round =>
                      obtain ⟨y, hy, rfl, rfl⟩ := hrel
                      by_cases hyl : y < nx'
                      · obtain ⟨g, rfl⟩ := hav (by omega)
                        have cy : wr.cell? ⟨g, y, none⟩ = some (.int .i64 (y : Nat)) := by
                          rw [HI4.out.sq.row.cellAt y (by omega)]
                          exact nums_at hyl
                        have b9 : (y : Int) < (nx' : Int) := by omega
                        go_wp2
                        go_roundw
                        case rel => exact ⟨y + 1, by omega, by go_num, trivial⟩
                        case measure => simp [intOf]; omega
                      · obtain rfl : nx' = y := by omega
                        go_wp2
                        go_roundw
                        case rel =>
                          first
                            | exact ⟨c + 1, _, nx', _, _, by omega, by go_num, HI4⟩
                            | ((repeat apply Exists.intro); exact ⟨⟨c + 1, _, nx', _, _, by omega, by go_num, HI4⟩, rfl⟩)
                        case measure => simp [intOf]; omega
                  · rw [if_neg hsk] at hw
                    have b8 : ¬ (s : Int) < (k : Int) := by omega
                    obtain rfl : nx' = k := hw
                    go_wp2
                    go_loopw [17] (fun i wx => ∃ y : Nat, y ≤ nx' ∧ i = .int .i64 y ∧ wx = W4) (fun i _ => nx' - (intOf i).toNat)
                    case atStart => exact ⟨0, Nat.zero_le _, rfl, rfl⟩
                    case round =>
                      obtain ⟨y, hy, rfl, rfl⟩ := hrel
                      by_cases hyl : y < nx'
                      · obtain ⟨g, rfl⟩ := hav (by omega)
                        have cy : wr.cell? ⟨g, y, none⟩ = some (.int .i64 (y : Nat)) := by
                          rw [HI4.out.sq.row.cellAt y (by omega)]
                          exact nums_at hyl
                        have b9 : (y : Int) < (nx' : Int) := by omega
                        go_wp2
                        go_roundw
                        case rel => exact ⟨y + 1, by omega, by go_num, trivial⟩
                        case measure => simp [intOf]; omega
                      · obtain rfl : nx' = y := by omega
                        go_wp2
                        go_roundw
                        case rel =>
                          first
                            | exact ⟨c + 1, _, nx', _, _, by omega, by go_num, HI4⟩
                            | ((repeat apply Exists.intro); exact ⟨⟨c + 1, _, nx', _, _, by omega, by go_num, HI4⟩, rfl⟩)
                        case measure => simp [intOf]; omega
                · rw [hr] at ck
                  have HKN := hide (fun j (hj : j < k + 1) => show setB rd p j = true from (by
                    by_cases e : j = k
                    · subst e; exact hr
                    · exact HKL.out j (by omega)))
                  clear hr
                  go_wp2
                  go_roundw
                  case rel => exact ⟨k + 1, by omega, by go_num, HKN, trivial⟩
                  case measure => simp [intOf]; omega
              · have b7 : ¬ (k : Int) < (s : Int) := by omega
                have HKT : k = s ∨ setB rd p k = false := .inl (by omega)
                have hw := want_eq HT.out.le HI4.out.le HI4.out.low HTOP.out HKL.out HKT
                by_cases hsk : s < k
                · rw [if_pos hsk] at hw
                  have b8 : (s : Int) < (k : Int) := by omega
                  obtain rfl : nx' = s := hw
                  go_wp2
                  go_loopw [17] (fun i wx => ∃ y : Nat, y ≤ nx' ∧ i = .int .i64 y ∧ wx = W4) (fun i _ => nx' - (intOf i).toNat)
                  case atStart => exact ⟨0, Nat.zero_le _, rfl, rfl⟩
                  case round =>
                    obtain ⟨y, hy, rfl, rfl⟩ := hrel
                    by_cases hyl : y < nx'
                    · obtain ⟨g, rfl⟩ := hav (by omega)
                      have cy : wr.cell? ⟨g, y, none⟩ = some (.int .i64 (y : Nat)) := by
                        rw [HI4.out.sq.row.cellAt y (by omega)]
                        exact nums_at hyl
                      have b9 : (y : Int) < (nx' : Int) := by omega
                      go_wp2
                      go_roundw
                      case rel => exact ⟨y + 1, by omega, by go_num, trivial⟩
                      case measure => simp [intOf]; omega
                    · obtain rfl : nx' = y := by omega
                      go_wp2
                      go_roundw
                      case rel =>
                        first
                          | exact ⟨c + 1, _, nx', _, _, by omega, by go_num, HI4⟩
                          | ((repeat apply Exists.intro); exact ⟨⟨c + 1, _, nx', _, _, by omega, by go_num, HI4⟩, rfl⟩)
                      case measure => simp [intOf]; omega
                · rw [if_neg hsk] at hw
                  have b8 : ¬ (s : Int) < (k : Int) := by omega
                  obtain rfl : nx' = k := hw
                  go_wp2
                  go_loopw [17] (fun i wx => ∃ y : Nat, y ≤ nx' ∧ i = .int .i64 y ∧ wx = W4) (fun i _ => nx' - (intOf i).toNat)
                  case atStart => exact ⟨0, Nat.zero_le _, rfl, rfl⟩
                  case round =>
                    obtain ⟨y, hy, rfl, rfl⟩ := hrel
                    by_cases hyl : y < nx'
                    · obtain ⟨g, rfl⟩ := hav (by omega)
                      have cy : wr.cell? ⟨g, y, none⟩ = some (.int .i64 (y : Nat)) := by
                        rw [HI4.out.sq.row.cellAt y (by omega)]
                        exact nums_at hyl
                      have b9 : (y : Int) < (nx' : Int) := by omega
                      go_wp2
                      go_roundw
                      case rel => exact ⟨y + 1, by omega, by go_num, trivial⟩
                      case measure => simp [intOf]; omega
                    · obtain rfl : nx' = y := by omega
                      go_wp2
                      go_roundw
                      case rel =>
                        first
                          | exact ⟨c + 1, _, nx', _, _, by omega, by go_num, HI4⟩
                          | ((repeat apply Exists.intro); exact ⟨⟨c + 1, _, nx', _, _, by omega, by go_num, HI4⟩, rfl⟩)
                      case measure => simp [intOf]; omega
          · go_wp2
            go_ret
            exact ⟨rfl, HI.out.sq.bel⟩
end Go.Proofs.Ybulkapna
