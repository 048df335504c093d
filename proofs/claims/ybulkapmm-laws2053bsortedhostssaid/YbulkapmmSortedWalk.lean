/-
  LawS2053BSortedHosts: the walk of the law.
-/
import Derived.Test.YbulkapmmRes
import Derived.WalkSpells
import Derived.RegionTactic
import Derived.Laws.CopyOwn
import Derived.Maps.OwnSet
namespace Go.Proofs.Ybulkapmm
open Go Go.RowKit Go.Maps

/-- What the walk is told of a slice of strings that came in, and of one of numbers. -/
def IsStrs (w : World) (a : Option Addr) (len : Nat) (S : Nat → ByteArray) : Prop :=
  len = 0 ∨ ∃ b off, a = some ⟨b, off, none⟩ ∧ b < w.heap.size ∧ ∀ i, i < len → w.cell? ⟨b, off + i, none⟩ = some (.string (S i))
def IsNums (w : World) (a : Option Addr) (len : Nat) (V : Nat → Int) : Prop :=
  len = 0 ∨ ∃ b off, a = some ⟨b, off, none⟩ ∧ b < w.heap.size ∧ ∀ i, i < len → w.cell? ⟨b, off + i, none⟩ = some (.int .i64 (V i))
def rvOf (V : Nat → Int) (len2 : Nat) (i : Nat) : Int := if i < len2 then V i else i

theorem upd {R : Value → Option (DataW Unit × List MemPlace)} (hR : Reader R) {S : Nat → ByteArray} {nm : ByteArray} {rv : Nat → Int} {m k : Nat} {w : World} (hown : w.ownsMap Yba.prog 9 R m k (DD S nm rv k)) (hk : k ≤ 1024) (hs : (S k).size ≤ maxLen) :
    ∃ w', (Instr.mapUpdate 32 (.map (some m)) (.string (S k)) (hostV (ent S nm rv k))).run Yba.prog w = .ok () w' ∧ w'.ownsMap Yba.prog 9 R m (k + 1) (DD S nm rv (k + 1)) ∧ w.grownBy w' (some m) :=
  hown.update law9 Yba.underlying32 (by unfold maxLen; omega) (WideMaps.keyOf_string_mk Yba.underlying9 hs) (hR.made _)

set_option maxRecDepth 100000 in
theorem sorted_long (nm : ByteArray) (a : Option Addr) (len cap : Nat) (a2 : Option Addr) (len2 cap2 : Nat) (w : World) (h : 1024 < len) :
    Calls Yba.prog 4 #[.string nm, .slice a len cap, .slice a2 len2 cap2] w fun e w' => e = .returned (.bool true) ∧ Below w.heap.size w w' := by
  go_enter Yba.func4, Yba.ntmps4
  go_wp2
  go_ret
  exact ⟨rfl, Below.refl _ _⟩

theorem WW_len {S : Nat → ByteArray} {k : Nat} (hs : ∀ i, i < k → (S i).size ≤ maxLen) {b : List UInt8} (hb : b ∈ WW S k) : b.length ≤ maxLen := by
  have h := (WW_mem b k).1 hb
  have h1 := lastOf_key k h
  have h2 := lastOf_bd (S := S) b k
  have := hs (lastOf S b k).toNat (by omega)
  rw [← h1, Array.length_toList]
  exact this

theorem info9 : (Yba.prog.info? 9).map (fun i => (i.zero, i.size, i.bytes)) = some (some (.string ⟨#[]⟩), 1, 16) := by kernel_rfl
theorem low_succ {l : List (List UInt8)} {b x : List UInt8} {q : Nat} (h : ∀ i x, i < q → l[i]? = some x → x < b) (hx : l[q]? = some x) (hl : x < b) : ∀ i x, i < q + 1 → l[i]? = some x → x < b := by
  intro i y hi hy
  by_cases e : i = q
  · subst e; rw [hx] at hy; cases hy; exact hl
  · exact h i y (by omega) hy
/-- Behind the append of the empty string. -/
structure Ins (B : Nat) (W w1 : World) (g cap n : Nat) (xs cur : List Value) : Prop where
  bel : Below B W w1
  hB : B ≤ g
  row : w1.heap[g]? = some (.cells cur.toArray 9 (0, 0))
  hcap : n + 1 ≤ cap
  hmax : cap ≤ maxLen
  hlen : cur.length = cap
  hxs : xs.length = n
  take : cur.take (n + 1) = xs ++ [.string ⟨#[]⟩]
theorem Ins.mk' {W wr w1 : World} {g cap n : Nat} {xs : List Value} {v : Value} {o : Obj} (hb : Below W.heap.size W wr) (hr : wr.ownsRow W.heap.size 9 1 v n xs) (h : w1.ownsRow W.heap.size 9 1 (.slice (some ⟨g, 0, none⟩) (n + 1) cap) (n + 1) (xs ++ [.string ⟨#[]⟩])) (hg : (wr.alloc o).grownBy w1 v.ownBlock) :
    ∃ cur, Ins W.heap.size W w1 g cap n xs cur := by
  have hsz := hb.size
  have h1 := hr.1
  rcases h.2 with ⟨h0, -⟩ | ⟨g', cap', cur, e, hB, hrow, hc, hm, hs, ht⟩
  · cases h0
  · cases e
    exact ⟨cur.toList, Below.grown (hb.alloc (by omega) _) hg (by simp; omega) (fun i hi => by have := (hr.lt i hi).1; omega), hB, by simpa using hrow, hc, hm, by simpa using hs, by simpa using h1, by simpa using ht⟩

theorem wrap_small (q : Nat) (h : q ≤ 1024) : IntKind.i64.wrap ((q : Int) + 1) = (q : Int) + 1 := by rw [IntKind.wrap_i64]; omega
theorem size9 : (Yba.prog.info? 9).map (·.size) = some 1 := by kernel_rfl
theorem strs_one {l : List (List UInt8)} : ∀ v ∈ l.map encStr, v.oneCell' = true := by
  intro v hv
  obtain ⟨x, -, rfl⟩ := List.mem_map.1 hv
  rfl
theorem Ins.ready {B : Nat} {W w1 : World} {g cap n : Nat} {xs cur : List Value} (h : Ins B W w1 g cap n xs cur) {q : Nat} (hq : q ≤ n) (h1 : ∀ v ∈ xs, v.oneCell' = true) :
    ∃ cs, cs = xs.drop q ∧ cs.length = Nat.min (n + 1 - q) (n - q) ∧
      (0 < cs.length → (if cap = q + 1 then some (⟨g, 0, none⟩ : Addr) else some ⟨g, q + 1, none⟩) = some ⟨g, q + 1, none⟩ ∧
        ∃ ad, (if cap = q then some (⟨g, 0, none⟩ : Addr) else some ⟨g, q, none⟩) = some ad ∧ ∀ j v, cs[j]? = some v → w1.drew.cell? (ad.add j) = some v) ∧
      q + 1 + cs.length ≤ cur.length ∧ (∀ v ∈ cs, v.oneCell' = true) := by
  have hc := h.hcap
  have hl := h.hlen
  have hx := h.hxs
  refine ⟨_, rfl, by simp [hx, Nat.min_def]; omega, fun hp => ?_, by simp; omega, fun v hv => h1 v (List.mem_of_mem_drop hv)⟩
  have hp' : 0 < xs.length - q := by simpa using hp
  refine ⟨if_neg (by omega), ⟨g, q, none⟩, if_neg (by omega), fun j v hv => ?_⟩
  have hjl : q + j < xs.length := by
    have := (List.getElem?_eq_some_iff.1 hv).1
    simp at this
    omega
  rw [show w1.drew.cell? ((⟨g, q, none⟩ : Addr).add j) = w1.cell? ⟨g, q + j, none⟩ from congrArg w1.cell? (WideShapes.add_plain g q j), cell_of_row w1 g (q + j) _ 9 (0, 0) h.row]
  have h2 : (cur.take (n + 1))[q + j]? = some v := by
    rw [h.take, List.getElem?_append_left hjl]
    simpa using hv
  rw [List.getElem?_take, if_pos (by omega)] at h2
  simpa using h2
theorem Ins.after {B : Nat} {W w1 w4 : World} {g cap n : Nat} {xs cur : List Value} (h : Ins B W w1 g cap n xs cur) {q : Nat} (hq : q ≤ n) (hrow : w4.heap[g]? = some (.cells (splice cur (q + 1) (xs.drop q)).toArray 9 (0, 0))) :
    w4.ownsRow B 9 1 (.slice (some ⟨g, 0, none⟩) (n + 1) cap) (n + 1) ((xs ++ [Value.string ⟨#[]⟩]).take (q + 1) ++ xs.drop q) := by
  have hc := h.hcap
  have hl := h.hlen
  have hx := h.hxs
  refine ⟨by simp; omega, .inr ⟨g, cap, _, rfl, h.hB, hrow, hc, h.hmax, ?_, ?_⟩⟩
  · simp only [List.size_toArray, Nat.mul_one]
    rw [length_splice _ _ _ (by simp; omega)]
    exact hl
  · simp only [Nat.mul_one, splice]
    rw [← List.append_assoc, List.take_append_of_le_length (by simp; omega), List.take_of_length_le (by simp; omega), ← h.take, List.take_take, Nat.min_eq_left (by omega)]
theorem set_mid {xs : List Value} {q : Nat} (hq : q ≤ xs.length) (z v : Value) : ((xs ++ [z]).take (q + 1) ++ xs.drop q).set q v = xs.take q ++ v :: xs.drop q := by
  rw [List.take_add_one, List.take_append_of_le_length hq, List.append_assoc, List.set_append_right _ _ (by simp; omega)]
  have e : (xs ++ [z])[q]?.toList = [(xs ++ [z])[q]'(by simp; omega)] := by rw [List.getElem?_eq_getElem (by simp; omega)]; rfl
  rw [e]
  simp [Nat.min_eq_left hq]

theorem enc_data (s : ByteArray) : encStr s.data.toList = .string s := by simp [encStr]
theorem ins_len {l : List (List UInt8)} {b : List UInt8} {q : Nat} (hq : q ≤ l.length) : (l.take q ++ b :: l.drop q).length = l.length + 1 := by simp; omega
theorem Ins.cell4 {B : Nat} {w4 : World} {g cap : Nat} {l : List (List UInt8)} {q : Nat} {z : Value} (h : w4.ownsRow B 9 1 (.slice (some ⟨g, 0, none⟩) (l.length + 1) cap) (l.length + 1) ((l.map encStr ++ [z]).take (q + 1) ++ (l.map encStr).drop q)) (hq : q ≤ l.length) :
    ∃ u, w4.cell? ⟨g, q, none⟩ = some u := by
  rw [h.cellAt q (by omega)]
  exact ⟨_, List.getElem?_eq_getElem (by simp; omega)⟩
theorem Ins.done {W w4 : World} {g cap : Nat} {l : List (List UInt8)} {q : Nat} {z : Value} {s : ByteArray} (hq : q ≤ l.length) (h : w4.ownsRow W.heap.size 9 1 (.slice (some ⟨g, 0, none⟩) (l.length + 1) cap) (l.length + 1) ((l.map encStr ++ [z]).take (q + 1) ++ (l.map encStr).drop q)) (hb : Below W.heap.size W w4) (hB : W.heap.size ≤ g) :
    (w4.setCell ⟨g, q, none⟩ (.string s)).ownsRow W.heap.size 9 1 (.slice (some ⟨g, 0, none⟩) (l.length + 1) cap) (l.length + 1) ((l.take q ++ s.data.toList :: l.drop q).map encStr) ∧ Below W.heap.size W (w4.setCell ⟨g, q, none⟩ (.string s)) := by
  have h2 := (h.stored q (.string s)).1
  rw [set_mid (by simpa using hq)] at h2
  refine ⟨?_, hb.setCell (by simpa using hB) _⟩
  rw [List.map_append, List.map_cons, enc_data, List.map_take, List.map_drop]
  exact h2

/-- A place of the sorted row, by the last entry that has its bytes. -/
theorem WW_at {S : Nat → ByteArray} {k t : Nat} (ht : t < (WW S k).length) : ∃ l : Nat, l < k ∧ (WW S k)[t]? = some (S l).data.toList ∧ lastOf S (S l).data.toList k = (l : Int) := by
  have hx := List.getElem?_eq_getElem ht
  have h := (WW_mem _ k).1 (List.mem_of_getElem? hx)
  have h1 := lastOf_key k h
  have h2 := lastOf_bd (S := S) (WW S k)[t] k
  refine ⟨(lastOf S (WW S k)[t] k).toNat, by omega, by rw [hx, h1], ?_⟩
  rw [h1]
  omega
theorem flat_at {f : List UInt8 → List Value} (hf : ∀ b, (f b).length = 5) : ∀ (l : List (List UInt8)) (t : Nat) (x : List UInt8) (c : Nat), l[t]? = some x → c < 5 → (l.flatMap f)[t * 5 + c]? = (f x)[c]?
  | [], t, x, c, h, _ => by simp at h
  | y :: r, 0, x, c, h, hc => by
    simp at h
    subst h
    rw [List.flatMap_cons, Nat.zero_mul, Nat.zero_add, List.getElem?_append_left (by rw [hf]; omega)]
  | y :: r, t + 1, x, c, h, hc => by
    rw [List.flatMap_cons, List.getElem?_append_right (by rw [hf]; omega), hf, show (t + 1) * 5 + c - 5 = t * 5 + c by omega]
    exact flat_at hf r t x c (by simpa using h) hc
theorem host_cell {S : Nat → ByteArray} {nm : ByteArray} {rv : Nat → Int} {k g n cap t l : Nat} {W : World} (h : W.ownsRow 0 35 5 (.slice (some ⟨g, 0, none⟩) n cap) n (outs S nm rv k (WW S k))) (hx : (WW S k)[t]? = some (S l).data.toList) (hl : lastOf S (S l).data.toList k = (l : Int)) (c : Nat) (hc : c < 5) :
    W.cell? ⟨g, t * 5 + c, none⟩ = (hostCells (ent S nm rv l))[c]? := by
  have hlt : t < n := by
    have h1 := h.1
    have h2 := (List.getElem?_eq_some_iff.1 hx).1
    have h3 : (outs S nm rv k (WW S k)).length = (WW S k).length * 5 := by
      have : ∀ l : List (List UInt8), (outs S nm rv k l).length = l.length * 5 := by
        intro l
        induction l with
        | nil => rfl
        | cons y r ih => unfold outs at ih ⊢; rw [List.flatMap_cons, List.length_append, ih]; simp [hostCells]; omega
      exact this _
    omega
  rw [h.cellAt _ (by omega), outs, flat_at (fun b => rfl) _ _ _ c hx hc, outH, hl]
  rfl

set_option maxRecDepth 100000 in
set_option maxHeartbeats 2000000 in
theorem sorted_walk (R : Value → Option (DataW Unit × List MemPlace)) (hR : Hid (Reader R)) (nm : ByteArray) (a : Addr) (len cap : Nat) (a2 : Option Addr) (len2 cap2 : Nat) (S : Nat → ByteArray) (V : Nat → Int) (w : World)
    (hlen : len ≤ 1024) (HS : Hid (IsStrs w (some a) len S)) (HV : Hid (IsNums w a2 len2 V)) (hs : Hid (∀ i, i < len → (S i).size ≤ maxLen)) :
    Calls Yba.prog 4 #[.string nm, .slice (some a) len cap, .slice a2 len2 cap2] w fun e w' => e = .returned (.bool true) ∧ Below w.heap.size w w' := by
  have hmm := @run_makeMap Yba.prog
  have hnn := run_neq_slice_nil_any (P := Yba.prog) w 30 9 (some a) len cap 0 0 Yba.underlying30
  go_enter Yba.func4, Yba.ntmps4
  go_wp2
  go_loopw [8, 9, 10, 30] (fun _ _ _ i wr => ∃ k : Nat, k ≤ len ∧ i = .int .i64 k ∧ Hid (wr.ownsMap Yba.prog 9 R w.heap.size k (DD S nm (rvOf V len2) k)) ∧ Below w.heap.size w wr) (fun _ _ _ i _ => len - (intOf i).toNat)
  case atStart => exact ⟨0, Nat.zero_le _, rfl, World.ownsMap_made _ _ _ _, (Below.refl _ _).alloc (Nat.le_refl _) _⟩
  case round =>
    obtain ⟨k, hk, rfl, HO, hbel⟩ := hrel
    by_cases hlt : k < len
    · obtain ⟨b, off, e, hb, hcell⟩ : ∃ b off, some a = some ⟨b, off, none⟩ ∧ b < w.heap.size ∧ ∀ i, i < len → w.cell? ⟨b, off + i, none⟩ = some (.string (S i)) := by
        rcases HS.out with h | h
        · omega
        · exact h
      obtain rfl : a = _ := Option.some.inj e
      clear e
      have ck : wr.cell? ⟨b, off + k, none⟩ = some (.string (S k)) := (hbel.cell hb).trans (hcell k hlt)
      have b0 : (k : Int) < (len : Int) := by omega
      obtain ⟨w2, hrun, hown2, hg2⟩ := upd hR.out HO.out (by omega) (hs.out k hlt)
      have HO2 := hide hown2
      have HB2 := hide (Below.grown hbel hg2 (by have := hbel.size; omega) (fun j hj => by cases hj; exact Nat.le_refl _))
      clear hown2 hg2 hcell
      by_cases h2 : k < len2
      · obtain ⟨b2, off2, rfl, hb2, hcell2⟩ : ∃ b off, a2 = some ⟨b, off, none⟩ ∧ b < w.heap.size ∧ ∀ i, i < len2 → w.cell? ⟨b, off + i, none⟩ = some (.int .i64 (V i)) := by
          rcases HV.out with h | h
          · omega
          · exact h
        have cv : wr.cell? ⟨b2, off2 + k, none⟩ = some (.int .i64 (V k)) := (hbel.cell hb2).trans (hcell2 k h2)
        have b1 : (k : Int) < (len2 : Int) := by omega
        simp only [hostV, ent, rvOf, if_pos h2] at hrun
        clear hcell2 HO
        go_wp2
        go_roundw
        case rel => exact ⟨k + 1, by omega, by go_num, HO2, HB2.out⟩
        case measure => simp [intOf]; omega
      · have b1 : ¬ (k : Int) < (len2 : Int) := by omega
        simp only [hostV, ent, rvOf, if_neg h2] at hrun
        clear HO
        go_wp2
        go_roundw
        case rel => exact ⟨k + 1, by omega, by go_num, HO2, HB2.out⟩
        case measure => simp [intOf]; omega
    · obtain rfl : k = len := by omega
      have hws := hide (fun b (hb : b ∈ WW S k) => WW_len hs.out hb)
      have HB0 := hide hbel
      have CR := hide (resource_c R hR nm nm S (rvOf V len2) w.heap.size k k wr HO.out hlen hws)
      clear HO hbel hws hmm hnn
      go_wp2_with (go_at_call 6; refine CR.out.mono ?_; rintro e W1 ⟨v, rfl, hrow, hb1⟩; obtain ⟨av, capv, rfl, hav⟩ := row_form hrow)
      obtain ⟨W2, hW2⟩ : ∃ W2, W2 = W1.alloc (.cells #[.string nm, .slice av (WW S k).length capv] 38) := ⟨_, rfl⟩
      have HB2 : Hid (Below w.heap.size w W2) := hW2 ▸ (HB0.out.trans (hb1.mono HB0.out.size)).alloc (by have := HB0.out.size; have := hb1.size; omega) _
      have HR2 : Hid (W2.ownsRow 0 35 5 (.slice av (WW S k).length capv) (WW S k).length (outs S nm (rvOf V len2) k (WW S k))) := hW2 ▸ (hrow.mono (Nat.zero_le _)).alloc _
      have HC : Hid (W2.cell? ⟨W1.heap.size, 1, none⟩ = some (.slice av (WW S k).length capv)) := hW2 ▸ hide (by go_simp)
      have hlt2 : W1.heap.size < W2.heap.size := by rw [hW2]; simp
      rw [← hW2]
      clear hW2 hrow hb1 HB0 CR
      go_loopw [12, 14, 15, 62] (fun want _ _ i wq => ∃ (j : Nat), j ≤ k ∧ i = .int .i64 j ∧ Hid (wq.ownsRow W2.heap.size 9 1 want (WW S j).length ((WW S j).map encStr)) ∧ Below W2.heap.size W2 wq) (fun _ _ _ i _ => k - (intOf i).toNat)
      case atStart => exact ⟨0, Nat.zero_le _, rfl, World.ownsRow_nil _ _ _ _, Below.refl _ _⟩
      case round =>
        obtain ⟨j, hj, rfl, HW, hbq⟩ := hrel
        obtain ⟨wq, hwq⟩ : ∃ wq, wq = wr := ⟨_, rfl⟩
        subst hwq
        obtain ⟨aw, capw, hwant, haw⟩ := row_form HW.out
        subst hwant
        by_cases hjl : j < k
        · obtain ⟨b, off, e, hb, hcell⟩ : ∃ b off, some a = some ⟨b, off, none⟩ ∧ b < w.heap.size ∧ ∀ i, i < k → w.cell? ⟨b, off + i, none⟩ = some (.string (S i)) := by
            rcases HS.out with h | h
            · omega
            · exact h
          obtain rfl : a = _ := Option.some.inj e
          clear e
          have ck : wq.cell? ⟨b, off + j, none⟩ = some (.string (S j)) := (hbq.cell (by have := HB2.out.size; simp; omega)).trans ((HB2.out.cell hb).trans (hcell j hjl))
          have b0 : (j : Int) < (k : Int) := by omega
          have HBq := hide hbq
          have hwl := WW_length (S := S) j
          clear hcell hbq
          go_wp2
          go_loopw [15] (fun p wx => ∃ (q : Nat), q ≤ (WW S j).length ∧ p = .int .i64 q ∧ (∀ i x, i < q → (WW S j)[i]? = some x → x < (S j).data.toList) ∧ wx = wq) (fun p _ => (WW S j).length - (intOf p).toNat)
          case atStart => exact ⟨0, Nat.zero_le _, rfl, fun i x h => by omega, rfl⟩
          case round =>
            obtain ⟨q, hq, rfl, hlow, rfl⟩ := hrel
            have hins : ∀ (hp : posOf (S j).data.toList (WW S j) = q), WW S (j + 1) = if (WW S j)[q]? = some (S j).data.toList then WW S j else (WW S j).take q ++ (S j).data.toList :: (WW S j).drop q := fun hp => by rw [WW, insAt, hp]
            obtain ⟨i9, hi, hz0, hz1, hz2⟩ := info_parts info9
            by_cases hql : q < (WW S j).length
            · obtain ⟨g, rfl⟩ := haw (by omega)
              obtain ⟨x, hx⟩ : ∃ x, (WW S j)[q]? = some x := ⟨_, List.getElem?_eq_getElem hql⟩
              have cx : wr.cell? ⟨g, q, none⟩ = some (encStr x) := by
                rw [HW.out.cellAt q (by omega)]
                simp [hx]
              have b1 : (q : Int) < ((WW S j).length : Int) := by omega
              simp only [encStr] at cx
              by_cases hless : x < (S j).data.toList
              · have hl : Op.bytesLess x (S j).toList = true := by rw [bytesLess_eq, ByteArray.toList_eq]; simpa using hless
                clear hins hi hz0 hz1 hz2
                go_wp2
                go_roundw
                case rel => exact ⟨q + 1, by omega, by go_num, low_succ hlow hx hless, trivial⟩
                case measure => simp [intOf]; omega
              · have hl : Op.bytesLess x (S j).toList = false := by rw [bytesLess_eq, ByteArray.toList_eq]; simpa using hless
                have hp := posOf_eq hq hlow (fun y hy => by rw [hx] at hy; cases hy; exact hless)
                by_cases heq : x = (S j).data.toList
                · have he : (x == (S j).toList) = true := by rw [ByteArray.toList_eq]; simpa using heq
                  have HN := hide ((hins hp).trans (if_pos (by rw [hx, heq])))
                  clear hins hi hz0 hz1 hz2 heq hless hx hlow hp
                  go_wp2
                  exact ⟨⟨j + 1, by omega, by go_num, by rw [HN.out]; exact HW, HBq.out⟩, by simp [intOf]; omega⟩
                · have he : (x == (S j).toList) = false := by rw [ByteArray.toList_eq]; simpa using heq
                  have HN := hide ((hins hp).trans (if_neg (by rw [hx]; simpa using heq)))
                  clear hins heq hless hx hlow hp
                  go_wp2_with (first
                    | (at_builtin; refine wpList_append_own_at _ rfl _ _ 30 rfl W2.heap.size 9 i9 _ 1 16 Yba.underlying30 hi hz0 hz1 hz2 rfl (by decide) _ _ _ rfl (HW.out.alloc _) ⟨wr.heap.size, 0, none⟩ 1 1 [.string ⟨#[]⟩] rfl rfl (cell_one_new _ _ _) (fun u hu => by simp at hu; subst hu; rfl) (by unfold maxLen; omega) (by omega) (by have := HBq.out.size; simp; omega) ?_; intro v' w1 hown' hgrow hnil hloc
                       obtain ⟨g1, cap1, rfl⟩ := ownsRow_succ hown'
                       obtain ⟨cur, hI⟩ := Ins.mk' HBq.out HW.out hown' hgrow
                       have HI := hide hI
                       have hcap1 := hI.hcap
                       clear hI
                       clear hown' hgrow hnil hloc)
                    | go_in)
                  have b2 : IntKind.i64.wrap ((q : Int) + 1) = (q : Int) + 1 := wrap_small q (by omega)
                  have b3 : 0 ≤ (q : Int) + 1 ∧ (q : Int) + 1 ≤ ((WW S j).length : Int) + 1 := by omega
                  have b4 : 0 ≤ (q : Int) ∧ (q : Int) ≤ ((WW S j).length : Int) + 1 := by omega
                  have b5 : ((q : Int) + 1).toNat = q + 1 := by omega
                  obtain ⟨cs, hcs, hcl, hcp, hcf, hc1⟩ := HI.out.ready hq strs_one
                  have HC4 := hide (And.intro hcs (And.intro hcl (And.intro hcp (And.intro hcf hc1))))
                  clear hcs hcl hcp hcf hc1
                  go_region_law (refine step_copy_splice rfl (.tmp 98) (.tmp 101) 30 30 rfl 9 Yba.underlying30 size9 (if cap1 = q + 1 then some ⟨g1, 0, none⟩ else some ⟨g1, q + 1, none⟩) (if cap1 = q then some ⟨g1, 0, none⟩ else some ⟨g1, q, none⟩) ((WW S j).length - q) (cap1 - (q + 1)) ((WW S j).length + 1 - q) (cap1 - q) (by simp [Act.eval, Act.put]) (by simp [Act.eval, Act.put]) g1 (q + 1) cur 9 HI.out.row cs HC4.out.2.1 HC4.out.2.2.1 HC4.out.2.2.2.1 HC4.out.2.2.2.2 W2.heap.size W2 HI.out.bel.drew HI.out.hB ?_; intro w4 hg4 hb4)
                  have hr4 := HI.out.after hq (HC4.out.1 ▸ hg4.out)
                  obtain ⟨z4, c4⟩ := Ins.cell4 hr4 hq
                  have f4 := hr4.frozenAt q
                  have HS4 := hide (Ins.done (s := S j) hq hr4 hb4 HI.out.hB)
                  clear hr4 hg4 hb4 HC4 HI b2 b3 b4 b5
                  go_wp2
                  exact ⟨⟨j + 1, by omega, by go_num, by rw [HN.out, ins_len hq]; exact HS4.out.1, HS4.out.2⟩, by simp [intOf]; omega⟩
            · have HN := hide ((hins (posOf_eq hq hlow (fun y hy => by rw [List.getElem?_eq_none (by omega)] at hy; cases hy))).trans (if_neg (by rw [List.getElem?_eq_none (by omega)]; simp)))
              obtain rfl : q = (WW S j).length := by omega
              clear hins hlow
              go_wp2_with (first
                | (at_builtin; refine wpList_append_own_at _ rfl _ _ 30 rfl W2.heap.size 9 i9 _ 1 16 Yba.underlying30 hi hz0 hz1 hz2 rfl (by decide) _ _ _ rfl (HW.out.alloc _) ⟨wr.heap.size, 0, none⟩ 1 1 [.string ⟨#[]⟩] rfl rfl (cell_one_new _ _ _) (fun u hu => by simp at hu; subst hu; rfl) (by unfold maxLen; omega) (by omega) (by have := HBq.out.size; simp; omega) ?_; intro v' w1 hown' hgrow hnil hloc
                   obtain ⟨g1, cap1, rfl⟩ := ownsRow_succ hown'
                   obtain ⟨cur, hI⟩ := Ins.mk' HBq.out HW.out hown' hgrow
                   have HI := hide hI
                   have hcap1 := hI.hcap
                   clear hI
                   clear hown' hgrow hnil hloc)
                | go_in)
              have b2 : IntKind.i64.wrap (((WW S j).length : Int) + 1) = ((WW S j).length : Int) + 1 := wrap_small (WW S j).length (by omega)
              have b3 : 0 ≤ ((WW S j).length : Int) + 1 ∧ ((WW S j).length : Int) + 1 ≤ ((WW S j).length : Int) + 1 := by omega
              have b4 : 0 ≤ ((WW S j).length : Int) ∧ ((WW S j).length : Int) ≤ ((WW S j).length : Int) + 1 := by omega
              have b5 : (((WW S j).length : Int) + 1).toNat = (WW S j).length + 1 := by omega
              obtain ⟨cs, hcs, hcl, hcp, hcf, hc1⟩ := HI.out.ready hq strs_one
              have HC4 := hide (And.intro hcs (And.intro hcl (And.intro hcp (And.intro hcf hc1))))
              clear hcs hcl hcp hcf hc1
              go_region_law (refine step_copy_splice rfl (.tmp 98) (.tmp 101) 30 30 rfl 9 Yba.underlying30 size9 (if cap1 = (WW S j).length + 1 then some ⟨g1, 0, none⟩ else some ⟨g1, (WW S j).length + 1, none⟩) (if cap1 = (WW S j).length then some ⟨g1, 0, none⟩ else some ⟨g1, (WW S j).length, none⟩) ((WW S j).length - (WW S j).length) (cap1 - ((WW S j).length + 1)) ((WW S j).length + 1 - (WW S j).length) (cap1 - (WW S j).length) (by simp [Act.eval, Act.put]) (by simp [Act.eval, Act.put]) g1 ((WW S j).length + 1) cur 9 HI.out.row cs HC4.out.2.1 HC4.out.2.2.1 HC4.out.2.2.2.1 HC4.out.2.2.2.2 W2.heap.size W2 HI.out.bel.drew HI.out.hB ?_; intro w4 hg4 hb4)
              have hr4 := HI.out.after hq (HC4.out.1 ▸ hg4.out)
              obtain ⟨z4, c4⟩ := Ins.cell4 hr4 hq
              have f4 := hr4.frozenAt (WW S j).length
              have HS4 := hide (Ins.done (s := S j) hq hr4 hb4 HI.out.hB)
              clear hr4 hg4 hb4 HC4 HI b2 b3 b4 b5
              go_wp2
              exact ⟨⟨j + 1, by omega, by go_num, by rw [HN.out, ins_len hq]; exact HS4.out.1, HS4.out.2⟩, by simp [intOf]; omega⟩
        · obtain rfl : j = k := by omega
          have cr : wq.cell? ⟨W1.heap.size, 1, none⟩ = some (.slice av (WW S j).length capv) := (hbq.cell (by simpa using hlt2)).trans HC.out
          have HBq := hide hbq
          have hwl := WW_length (S := S) j
          clear hbq
          go_wp2
          clear cr
          go_loopw [16, 17, 18, 19, 20, 21, 116] (fun _ _ _ _ _ _ i wx => ∃ (t : Nat), t ≤ (WW S j).length ∧ i = .int .i64 t ∧ Below wq.heap.size wq wx) (fun _ _ _ _ _ _ i _ => (WW S j).length - (intOf i).toNat)
          case atStart => exact ⟨0, Nat.zero_le _, rfl, Below.refl _ _⟩
          case round =>
            obtain ⟨t, ht, rfl, hbt⟩ := hrel
            by_cases htl : t < (WW S j).length
            · obtain ⟨gw, rfl⟩ := haw (by omega)
              obtain ⟨gv, rfl⟩ := hav (by omega)
              obtain ⟨l, hl, hx, hlast⟩ := WW_at (S := S) htl
              have HX := hide (And.intro hx hlast)
              have hq1 := HBq.out.size
              have cw : wr.cell? ⟨gw, t, none⟩ = some (.string (S l)) := by
                rw [hbt.cell (by simpa using (HW.out.lt gw rfl).2), HW.out.cellAt t (by omega), List.getElem?_map, hx, ← enc_data]
                rfl
              have cr : wr.cell? ⟨W1.heap.size, 1, none⟩ = some (.slice (some ⟨gv, 0, none⟩) (WW S j).length capv) := (hbt.cell (by simp; omega)).trans ((HBq.out.cell (by simpa using hlt2)).trans HC.out)
              have hcell := fun c hc => host_cell HR2.out hx hlast c hc
              have hbW := hide (HBq.out.trans (hbt.mono HBq.out.size))
              obtain ⟨b, off, e, hb, hkey⟩ : ∃ b off, some a = some ⟨b, off, none⟩ ∧ b < w.heap.size ∧ ∀ i, i < j → w.cell? ⟨b, off + i, none⟩ = some (.string (S i)) := by
                rcases HS.out with h | h
                · omega
                · exact h
              obtain rfl : a = _ := Option.some.inj e
              clear e
              have hkr := hide (fun i hi => (hbW.out.cell (p := ⟨b, off + i, none⟩) (by have := HB2.out.size; simp; omega)).trans ((HB2.out.cell (p := ⟨b, off + i, none⟩) hb).trans (hkey i hi)))
              clear hkey
              have b0 : (t : Int) < ((WW S j).length : Int) := by omega
              obtain ⟨wt, hwt⟩ : ∃ wt, wt = wr := ⟨_, rfl⟩
              subst hwt
              clear hx hlast
              have g0 := (hbW.out.cell (p := ⟨gv, t * 5, none⟩) (by simpa using (HR2.out.lt gv rfl).2)).trans (hcell 0 (by omega))
              have g1 := (hbW.out.cell (p := ⟨gv, t * 5 + 1, none⟩) (by simpa using (HR2.out.lt gv rfl).2)).trans (hcell 1 (by omega))
              have g2 := (hbW.out.cell (p := ⟨gv, t * 5 + 2, none⟩) (by simpa using (HR2.out.lt gv rfl).2)).trans (hcell 2 (by omega))
              have g3 := (hbW.out.cell (p := ⟨gv, t * 5 + 3, none⟩) (by simpa using (HR2.out.lt gv rfl).2)).trans (hcell 3 (by omega))
              have g4 := (hbW.out.cell (p := ⟨gv, t * 5 + 4, none⟩) (by simpa using (HR2.out.lt gv rfl).2)).trans (hcell 4 (by omega))
              simp only [hostCells, ent, List.getElem?_cons_zero, List.getElem?_cons_succ] at g0 g1 g2 g3 g4
              have HG := hide (And.intro g0 (And.intro g1 (And.intro g2 (And.intro g3 g4))))
              clear g0 g1 g2 g3 g4 hcell
              have HBt := hide hbt
              clear hbt
              go_wp2
              clear cw
              go_loopw [18, 19, 123] (fun last _ i wx => ∃ (y : Nat), y ≤ j ∧ i = .int .i64 y ∧ last = .int .i64 (lastOf S (S l).data.toList y) ∧ wx = wt) (fun _ _ i _ => j - (intOf i).toNat)
              case atStart => exact ⟨0, Nat.zero_le _, rfl, rfl, rfl⟩
              case round =>
                obtain ⟨y, hy, rfl, rfl, rfl⟩ := hrel
                by_cases hyl : y < j
                · have ck := hkr.out y hyl
                  have b1 : (y : Int) < (j : Int) := by omega
                  by_cases he : (S y).data.toList = (S l).data.toList
                  · have hq : ((S y).toList == (S l).toList) = true := by rw [ByteArray.toList_eq, ByteArray.toList_eq, he]; simp
                    have HN : Hid (lastOf S (S l).data.toList (y + 1) = y) := hide (by rw [lastOf, if_pos he])
                    clear he
                    go_wp2
                    go_roundw
                    case rel => exact ⟨y + 1, by omega, by go_num, by rw [HN.out], trivial⟩
                    case measure => simp [intOf]; omega
                  · have hq : ((S y).toList == (S l).toList) = false := by rw [ByteArray.toList_eq, ByteArray.toList_eq]; simpa using he
                    have HN : Hid (lastOf S (S l).data.toList (y + 1) = lastOf S (S l).data.toList y) := hide (by rw [lastOf, if_neg he])
                    clear he
                    go_wp2
                    go_roundw
                    case rel => exact ⟨y + 1, by omega, by go_num, by rw [HN.out], trivial⟩
                    case measure => simp [intOf]; omega
                · obtain rfl : y = j := by omega
                  have e := HX.out.2
                  rw [e]
                  obtain ⟨g0, g1, g2, g3, g4⟩ := HG.out
                  clear e HG hkr
                  by_cases h2 : l < len2
                  · obtain ⟨b2, off2, rfl, hb2, hcell2⟩ : ∃ b off, a2 = some ⟨b, off, none⟩ ∧ b < w.heap.size ∧ ∀ i, i < len2 → w.cell? ⟨b, off + i, none⟩ = some (.int .i64 (V i)) := by
                      rcases HV.out with h | h
                      · omega
                      · exact h
                    have cv := (hbW.out.cell (p := ⟨b2, off2 + l, none⟩) (by have := HB2.out.size; simp; omega)).trans ((HB2.out.cell (p := ⟨b2, off2 + l, none⟩) hb2).trans (hcell2 l h2))
                    have b1 : (l : Int) < (len2 : Int) := by omega
                    simp only [rvOf, if_pos h2] at g4
                    clear hcell2
                    go_wp2
                    exact ⟨⟨t + 1, by omega, by go_num, HBt.out.alloc HBt.out.size _⟩, by simp [intOf]; omega⟩
                  · have b1 : ¬ (l : Int) < (len2 : Int) := by omega
                    simp only [rvOf, if_neg h2] at g4
                    go_wp2
                    exact ⟨⟨t + 1, by omega, by go_num, HBt.out.alloc HBt.out.size _⟩, by simp [intOf]; omega⟩
            · go_wp2
              go_ret
              exact ⟨rfl, (HB2.out.trans (HBq.out.mono HB2.out.size)).trans (hbt.mono (by have := HB2.out.size; have := HBq.out.size; omega))⟩

set_option maxRecDepth 100000 in
set_option maxHeartbeats 2000000 in
/-- .. where the keys are nil. -/
theorem sorted_nil (nm : ByteArray) (a2 : Option Addr) (len2 cap2 : Nat) (w : World) :
    Calls Yba.prog 4 #[.string nm, .slice none 0 0, .slice a2 len2 cap2] w fun e w' => e = .returned (.bool true) ∧ Below w.heap.size w w' := by
  have hnn := run_neq_slice_nil_any (P := Yba.prog) w 30 9 none 0 0 0 0 Yba.underlying30
  go_enter Yba.func4, Yba.ntmps4
  go_wp2
  go_loopw [8, 9, 10, 30] (fun _ _ _ i wr => i = .int .i64 0 ∧ wr = w) (fun _ _ _ _ _ => 0)
  case atStart => exact ⟨rfl, rfl⟩
  case round =>
    obtain ⟨rfl, rfl⟩ := hrel
    go_wp2_with (go_at_call 6; refine (resource_nil nm _).mono ?_; rintro e W1 ⟨rfl, hb1⟩)
    have HB1 := hide (hb1.alloc (by have := hb1.size; omega) (.cells #[.string nm, .slice none 0 0] 38))
    clear hb1
    go_loopw [12, 14, 15, 62] (fun want _ _ i wx => i = .int .i64 0 ∧ want = .slice none 0 0 ∧ wx = W1.alloc (.cells #[.string nm, .slice none 0 0] 38)) (fun _ _ _ _ _ => 0)
    case atStart => exact ⟨rfl, rfl, rfl⟩
    case round =>
      obtain ⟨rfl, rfl, rfl⟩ := hrel
      go_wp2
      go_loopw [16, 17, 18, 19, 20, 21, 116] (fun _ _ _ _ _ _ i wx => i = .int .i64 0 ∧ wx = W1.alloc (.cells #[.string nm, .slice none 0 0] 38)) (fun _ _ _ _ _ _ _ _ => 0)
      case atStart => exact ⟨rfl, rfl⟩
      case round =>
        obtain ⟨rfl, rfl⟩ := hrel
        go_wp2
        go_ret
        exact ⟨rfl, HB1.out⟩
end Go.Proofs.Ybulkapmm
