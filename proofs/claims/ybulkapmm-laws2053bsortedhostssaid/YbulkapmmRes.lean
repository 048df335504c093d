/-
  resourceOf: the row of hosts, by the sorted keys.
-/
import Derived.Test.YbulkapmmIter
import Derived.Test.YbulkapmmPlain
import Derived.LoopTactic
import Derived.Maps.AppendAt
import Derived.OwnWalk
import Derived.OneCell
import Derived.RangeFuncBox
import Derived.Deep.Onto
namespace Go.Proofs.Ybulkapmm
open Go Go.RowKit Go.Maps

theorem hide {p : Prop} (h : p) : Hid p := h
theorem law9 : Keyed Yba.prog 9 := string_keyed Yba.underlying9
theorem lt_of_own {R : Value → Option (DataW Unit × List MemPlace)} {w : World} {m n : Nat} {D : DataW Unit} (h : w.ownsMap Yba.prog 9 R m n D) : m < w.heap.size := h.lt
theorem own_below {R : Value → Option (DataW Unit × List MemPlace)} {w w' : World} {m n : Nat} {D : DataW Unit} (h : w.ownsMap Yba.prog 9 R m n D) {N : Nat} (hb : Below N w w') (hN : m < N) : w'.ownsMap Yba.prog 9 R m n D := by
  obtain ⟨es, cl, h1, h2⟩ := h
  exact ⟨es, cl, (hb.block m hN).trans h1, h2⟩
theorem row_below {w w' : World} {base : Nat} {e : TypeId} {size : Nat} {v : Value} {n : Nat} {xs : List Value} (h : w.ownsRow base e size v n xs) {N : Nat} (hb : Below N w w') (hN : ∀ g, v.ownBlock = some g → g < N) : w'.ownsRow base e size v n xs := by
  refine ⟨h.1, ?_⟩
  rcases h.2 with h0 | ⟨g, cap, cur, rfl, h1, h2, h3⟩
  · exact .inl h0
  · exact .inr ⟨g, cap, cur, rfl, h1, (hb.block g (hN g rfl)).trans h2, h3⟩
/-- A row's slice, whatever its length. -/
theorem row_form {w : World} {base : Nat} {e : TypeId} {size : Nat} {v : Value} {n : Nat} {xs : List Value} (h : w.ownsRow base e size v n xs) : ∃ a cap, v = .slice a n cap ∧ (0 < n → ∃ g, a = some ⟨g, 0, none⟩) := by
  rcases h.2 with ⟨rfl, rfl⟩ | ⟨g, cap, cur, rfl, -⟩
  · exact ⟨none, 0, rfl, fun h => by omega⟩
  · exact ⟨_, cap, rfl, fun _ => ⟨g, rfl⟩⟩

theorem info35 : (Yba.prog.info? 35).map (fun i => (i.zero, i.size, i.bytes)) = some (some (hostV ⟨⟨#[]⟩, ⟨#[]⟩, 0, 0⟩), 5, 64) := by kernel_rfl

section
variable {S : Nat → ByteArray} {nm : ByteArray} {rv : Nat → Int} {k : Nat}
def outH (S : Nat → ByteArray) (nm : ByteArray) (rv : Nat → Int) (k : Nat) (b : List UInt8) : HostT := ent S nm rv (lastOf S b k).toNat
def outs (S : Nat → ByteArray) (nm : ByteArray) (rv : Nat → Int) (k : Nat) (l : List (List UInt8)) : List Value := l.flatMap fun b => hostCells (outH S nm rv k b)
theorem outs_take {l : List (List UInt8)} {j : Nat} {b : List UInt8} (h : l[j]? = some b) : outs S nm rv k (l.take (j + 1)) = outs S nm rv k (l.take j) ++ hostCells (outH S nm rv k b) := by
  rw [List.take_add_one, h]
  simp [outs]
/-- The look-up at a key of the map. -/
theorem look {R : Value → Option (DataW Unit × List MemPlace)} (hR : Reader R) {m n : Nat} {w : World} (hown : w.ownsMap Yba.prog 9 R m n (DD S nm rv k)) {b : List UInt8} (hb : b ∈ WW S k) (hs : b.length ≤ maxLen) :
    (Instr.lookup 32 (.map (some m)) (encStr b) false).run Yba.prog w = .ok (hostV (outH S nm rv k b)) w := by
  obtain ⟨v, ps, hrun, hv⟩ := hown.lookup law9 Yba.underlying32 (Yba.zeroValue35 w) (hR.made ⟨⟨#[]⟩, ⟨#[]⟩, 0, 0⟩) (key := encStr b) (kl := .string b) (by
    have := WideMaps.keyOf_string_mk Yba.underlying9 (s := ⟨b.toArray⟩) (by simpa [ByteArray.size] using hs)
    simpa [encStr] using this)
  rw [(DD_at b k).1 ((WW_mem b k).1 hb)] at hv
  obtain ⟨t, rfl, hz⟩ := hR.inv v _ hv
  simp only [Prod.mk.injEq] at hz
  rw [outH, hostD_inj hz.1]
  exact hrun
end

/-- What resourceOf's loop keeps: the result's block and r's. -/
structure IvR (q : Nat) (name : ByteArray) (v : Value) (w : World) : Prop where
  c0 : w.cell? ⟨q + 1, 0, none⟩ = some (.string name)
  c1 : w.cell? ⟨q + 1, 1, none⟩ = some v
  z1 : w.frozen? ⟨q + 1, 1, none⟩ = false
  r0 : w.cell? ⟨q, 0, none⟩ = some (.string ⟨#[]⟩)
  r1 : w.cell? ⟨q, 1, none⟩ = some (.slice none 0 0)
  y0 : w.frozen? ⟨q, 0, none⟩ = false
  y1 : w.frozen? ⟨q, 1, none⟩ = false
theorem IvR.keep {q : Nat} {name : ByteArray} {v : Value} {w w' : World} (h : IvR q name v w) (h1 : w'.heap[q]? = w.heap[q]?) (h2 : w'.heap[q + 1]? = w.heap[q + 1]?) : IvR q name v w' :=
  ⟨(World.cell?_of_block (w := w) h2).trans h.c0, (World.cell?_of_block (w := w) h2).trans h.c1, (World.frozen?_of_block (w := w) h2).trans h.z1,
   (World.cell?_of_block (w := w) h1).trans h.r0, (World.cell?_of_block (w := w) h1).trans h.r1, (World.frozen?_of_block (w := w) h1).trans h.y0, (World.frozen?_of_block (w := w) h1).trans h.y1⟩
theorem IvR.set {q : Nat} {name : ByteArray} {v : Value} {w : World} (h : IvR q name v w) (u : Value) : IvR q name u (w.setCell ⟨q + 1, 1, none⟩ u) := by
  obtain ⟨c0, c1, z1, r0, r1, y0, y1⟩ := h
  exact ⟨by go_simp, by go_simp, by go_simp, by go_simp, by go_simp, by go_simp, by go_simp⟩

/-- The loop's state. -/
structure Rd (q B : Nat) (name : ByteArray) (w wr : World) (kv v : Value) (K : List (List UInt8)) (j : Nat) (xs : List Value) : Prop where
  row : wr.ownsRow B 35 5 v j xs
  iv : IvR q name v wr
  bel : Below q w wr
  keys : wr.ownsRow (q + 3) 9 1 kv K.length (K.map encStr)
  kl : ∀ g, kv.ownBlock = some g → g < B
  hq : q + 3 ≤ B
  sz : B ≤ wr.heap.size
theorem Rd.blk {q B : Nat} {name : ByteArray} {w wr w1 : World} {kv v : Value} {K : List (List UInt8)} {j : Nat} {xs : List Value} {o : Obj} (h : Rd q B name w wr kv v K j xs)
    (hg : (wr.alloc o).grownBy w1 v.ownBlock) : ∀ i, i < B → w1.heap[i]? = wr.heap[i]? := by
  have hB := h.sz
  intro i hi
  rw [hg.block i (by simp; omega) (fun e => by have := (h.row.lt i e.symm).1; omega)]
  exact Below.heap_alloc _ _ _ (by omega)
theorem Rd.step {q B : Nat} {name : ByteArray} {w wr w1 : World} {kv v v' : Value} {K : List (List UInt8)} {j : Nat} {xs news : List Value} {o : Obj} (h : Rd q B name w wr kv v K j xs)
    (hown : w1.ownsRow B 35 5 v' (j + 1) (xs ++ news)) (hg : (wr.alloc o).grownBy w1 v.ownBlock) (hq : q = w.heap.size) : Rd q B name w (w1.setCell ⟨q + 1, 1, none⟩ v') kv v' K (j + 1) (xs ++ news) := by
  have hB := h.sz
  have hq3 := h.hq
  have hblk := h.blk hg
  have hk1 : w1.ownsRow (q + 3) 9 1 kv K.length (K.map encStr) := by
    refine ⟨h.keys.1, ?_⟩
    rcases h.keys.2 with h0 | ⟨g, cap, cur, rfl, h1, h2, h3⟩
    · exact .inl h0
    · exact .inr ⟨g, cap, cur, rfl, h1, (hblk g (h.kl g rfl)).trans h2, h3⟩
  have hb1 : Below q w w1 := Below.grown (h.bel.alloc (by omega) _) hg (by simp; omega) (fun i hi => by have := (h.row.lt i hi).1; omega)
  have hs1 := hg.size
  exact ⟨ownsRow_setCell_below hown (by simp; omega) _, (h.iv.keep (hblk q (by omega)) (hblk (q + 1) (by omega))).set v', hb1.setCell (by simp) _, ownsRow_setCell_below hk1 (by simp) _, h.kl, h.hq, by simp at hs1; simp [World.setCell]; omega⟩

section
variable {S : Nat → ByteArray} {nm : ByteArray} {rv : Nat → Int} {k : Nat}
/-- The sorted keys, at resourceOf's call. -/
theorem sorted_at (R : Value → Option (DataW Unit × List MemPlace)) (m n : Nat) (w : World) (o1 o2 : Obj) (hown : w.ownsMap Yba.prog 9 R m n (DD S nm rv k)) (hk : k ≤ 1024) :
    Calls Yba.prog 7 #[.func (.func 11) #[] #[.pointer (some ⟨w.heap.size + 1 + 1, 0, none⟩)]] (((w.alloc o1).alloc o2).alloc (.cells #[.map (some m)] 32)) fun e w' => ∃ a cap, e = .returned (.slice a (WW S k).length cap) ∧
      (0 < (WW S k).length → ∃ g, a = some ⟨g, 0, none⟩) ∧ w'.ownsRow (w.heap.size + 3) 9 1 (.slice a (WW S k).length cap) (WW S k).length ((WW S k).map encStr) ∧ Below (w.heap.size + 3) (((w.alloc o1).alloc o2).alloc (.cells #[.map (some m)] 32)) w' := by
  have hsz := DD_size (S := S) (nm := nm) (rv := rv) k
  have h := Yba.sorted_c m n (DD S nm rv k) R ((w.alloc o1).alloc o2) ((hown.alloc _).alloc _) (by unfold maxLen; omega) (by omega)
  simp only [World.size_alloc] at h
  refine h.mono ?_
  rintro e w' ⟨v, ss, rfl, hp, hrow, -, hb⟩
  have hkey : ∀ es, DD S nm rv k = .map es → ∀ p ∈ es, ∃ x, p.1 = .string x := by
    intro es he p hp
    obtain ⟨es', he', hK⟩ := hown.keysOf
    rw [he] at he'
    cases he'
    obtain ⟨v, hv⟩ := hK p hp
    obtain ⟨x, -, hx, -⟩ := Maps.keyOf_str Yba.underlying9 hv
    exact ⟨x, hx⟩
  have e1 := sorted_keys hkey hp
  have e2 : ss.length = (WW S k).length := by rw [← e1, List.length_mergeSort]
  rw [e1, e2] at hrow
  obtain ⟨a, cap, rfl, hg⟩ := row_form hrow
  exact ⟨a, cap, rfl, hg, hrow, hb⟩
end

set_option maxRecDepth 100000 in
set_option maxHeartbeats 2000000 in
theorem resource_c (R : Value → Option (DataW Unit × List MemPlace)) (hR : Hid (Reader R)) (name nm : ByteArray) (S : Nat → ByteArray) (rv : Nat → Int) (m n k : Nat) (w : World) (hown : w.ownsMap Yba.prog 9 R m n (DD S nm rv k)) (hk : k ≤ 1024) (hs : Hid (∀ b, b ∈ WW S k → b.length ≤ maxLen)) :
    Calls Yba.prog 6 #[.string name, .map (some m)] w fun e w' => ∃ v, e = .returned (.agg #[.string name, v]) ∧ w'.ownsRow w.heap.size 35 5 v (WW S k).length (outs S nm rv k (WW S k)) ∧ Below w.heap.size w w' := by
  have hlt := lt_of_own hown
  have HO := hide hown
  clear hown
  obtain ⟨i0, hi, hz0, hz1, hz2⟩ := info_parts info35
  go_enter Yba.func6, Yba.ntmps6
  go_wp2_with (first
    | (go_at_call 8; refine (Yba.keys_c _ _).mono ?_; rintro e w' ⟨rfl, rfl⟩)
    | (go_at_call 7; refine (sorted_at R m n w _ _ HO.out hk).mono ?_; rintro e W ⟨a, cap, rfl, hga, hkeys, hbW⟩))
  have hR0 : Rd w.heap.size W.heap.size name w W (.slice a (WW S k).length cap) (.slice none 0 0) (WW S k) 0 [] := by
    have hsz := hbW.size
    simp at hsz
    have h2 : IvR w.heap.size name (.slice none 0 0) (((w.alloc (.cells #[.string ⟨#[]⟩, .slice none 0 0] 38)).alloc (.cells #[.string name, .slice none 0 0] 38)).alloc (.cells #[.map (some m)] 32)) :=
      ⟨by go_simp, by go_simp, by go_simp, by go_simp, by go_simp, by go_simp, by go_simp⟩
    refine ⟨World.ownsRow_nil _ _ _ _, h2.keep (hbW.block _ (by omega)) (hbW.block _ (by omega)), ?_, hkeys, fun g hg => (hkeys.lt g hg).2, by omega, Nat.le_refl _⟩
    exact ((((Below.refl _ _).alloc (Nat.le_refl _) _).alloc (by simp) _).alloc (by simp; omega) _).trans (hbW.mono (by omega))
  have HR0 := hide hR0
  have hWl := WW_length (S := S) k
  have hBs := hR0.hq
  clear hR0 hkeys hbW
  go_loopw [7, 14] (fun _ i wr => ∃ (j : Nat) (v : Value), j ≤ (WW S k).length ∧ i = .int .i64 j ∧ Hid (Rd w.heap.size W.heap.size name w wr (.slice a (WW S k).length cap) v (WW S k) j (outs S nm rv k ((WW S k).take j)))) (fun _ i _ => (WW S k).length - (intOf i).toNat)
  case atStart => exact ⟨0, _, Nat.zero_le _, rfl, HR0⟩
  case round =>
    obtain ⟨j, v, hj, rfl, HRd⟩ := hrel
    obtain ⟨av, capv, rfl, -⟩ := row_form HRd.out.row
    have c0 := HRd.out.iv.c0
    have c1 := HRd.out.iv.c1
    have z1 := HRd.out.iv.z1
    have r0 := HRd.out.iv.r0
    have r1 := HRd.out.iv.r1
    have y0 := HRd.out.iv.y0
    have y1 := HRd.out.iv.y1
    by_cases hjl : j < (WW S k).length
    · obtain ⟨g, rfl⟩ := hga (by omega)
      obtain ⟨b, hb⟩ : ∃ b, (WW S k)[j]? = some b := ⟨_, List.getElem?_eq_getElem hjl⟩
      have hbm := List.mem_of_getElem? hb
      have ck : wr.cell? ⟨g, j, none⟩ = some (encStr b) := by
        rw [HRd.out.keys.cellAt j (by omega)]
        simp [hb]
      have hlk := look hR.out (own_below HO.out HRd.out.bel hlt) hbm (hs.out b hbm)
      have b0 : (j : Int) < ((WW S k).length : Int) := by omega
      have HB := hide hb
      clear hb hbm
      simp only [encStr, hostV] at ck hlk
      go_wp2_with (first
        | (at_builtin; refine wpList_append_own_at _ rfl _ _ 36 rfl W.heap.size 35 i0 _ 5 64 Yba.underlying36 hi hz0 hz1 hz2 rfl (by decide) _ _ _ rfl (HRd.out.row.alloc _) ⟨wr.heap.size, 0, none⟩ 1 1 (hostCells (outH S nm rv k b)) rfl rfl ?c1 ?c2 ?c3 ?c4 ?c5 ?_)
        | go_in)
      case c1 =>
        intro i u hi
        have : i < 5 := by
          have := (List.getElem?_eq_some_iff.1 hi).1
          simpa [hostCells] using this
        match i, this, hi with
        | 0, _, hi => simp only [hostCells, List.getElem?_cons_zero, Option.some.injEq] at hi; subst hi; simp [Addr.add]
        | 1, _, hi => simp only [hostCells, List.getElem?_cons_zero, List.getElem?_cons_succ, Option.some.injEq] at hi; subst hi; simp [Addr.add]
        | 2, _, hi => simp only [hostCells, List.getElem?_cons_zero, List.getElem?_cons_succ, Option.some.injEq] at hi; subst hi; simp [Addr.add]
        | 3, _, hi => simp only [hostCells, List.getElem?_cons_zero, List.getElem?_cons_succ, Option.some.injEq] at hi; subst hi; simp [Addr.add]
        | 4, _, hi => simp only [hostCells, List.getElem?_cons_zero, List.getElem?_cons_succ, Option.some.injEq] at hi; subst hi; simp [Addr.add]
      case c2 => intro u hu; simp only [hostCells, List.mem_cons, List.not_mem_nil, or_false] at hu; rcases hu with rfl | rfl | rfl | rfl | rfl <;> rfl
      case c3 => unfold maxLen; omega
      case c4 => omega
      case c5 => have := HRd.out.sz; simp; omega
      intro v' w1 hown' hgrow hnil hloc
      have HRd' := hide (HRd.out.step hown' hgrow rfl)
      have blk := HRd.out.blk hgrow
      obtain ⟨g1, cap1, rfl⟩ := ownsRow_succ hown'
      have z1' : w1.frozen? ⟨w.heap.size + 1, 1, none⟩ = false := (World.frozen?_of_block (w := wr) (blk (w.heap.size + 1) (by omega))).trans z1
      have c1' : w1.cell? ⟨w.heap.size + 1, 1, none⟩ = some (.slice av j capv) := (World.cell?_of_block (w := wr) (blk (w.heap.size + 1) (by omega))).trans c1
      rw [← outs_take HB.out] at HRd'
      clear blk hown' hgrow hnil hloc HRd hlk ck c0 c1 z1 r0 r1 y0 y1
      go_wp2
      go_roundw
      case rel => exact ⟨j + 1, _, by omega, by go_num, HRd'⟩
      case measure => simp [intOf]; omega
    · obtain rfl : j = (WW S k).length := by omega
      go_wp2
      (try simp only [Exit.inBlock, Exit.then])
      have e0 : (wr.setCell ⟨w.heap.size, 0, none⟩ (.string name)).cell? ⟨w.heap.size, 0, none⟩ = some (.string name) := World.cell?_setCell_same' _ _ _ (by rw [r0]; rfl)
      have e1 : ((wr.setCell ⟨w.heap.size, 0, none⟩ (.string name)).setCell ⟨w.heap.size, 1, none⟩ (.slice av (WW S k).length capv)).cell? ⟨w.heap.size, 1, none⟩ = some (.slice av (WW S k).length capv) :=
        World.cell?_setCell_same' _ _ _ (by rw [show (wr.setCell ⟨w.heap.size, 0, none⟩ (.string name)).cell? ⟨w.heap.size, 1, none⟩ = some (.slice none 0 0) from by go_simp]; rfl)
      refine bodyPost_ret (by simp [results, go_sem, e0, e1, Result.andThen]; try rfl) rfl ?_
      rw [List.take_length] at HRd
      have hsz := HRd.out.sz
      refine ⟨_, rfl, ?_, (HRd.out.bel.setCell (by simp) _).setCell (by simp) _⟩
      exact (ownsRow_setCell_below (ownsRow_setCell_below HRd.out.row (by simp; omega) _) (by simp; omega) _).mono (by omega)

theorem sorted_nil_at (w : World) (o1 o2 : Obj) :
    Calls Yba.prog 7 #[.func (.func 11) #[] #[.pointer (some ⟨w.heap.size + 1 + 1, 0, none⟩)]] (((w.alloc o1).alloc o2).alloc (.cells #[.map none] 32)) fun e w' => e = .returned (.slice none 0 0) ∧ Below (w.heap.size + 3) (((w.alloc o1).alloc o2).alloc (.cells #[.map none] 32)) w' := by
  have h := Yba.sorted_nil_c ((w.alloc o1).alloc o2)
  simp only [World.size_alloc] at h
  exact h
set_option maxRecDepth 100000 in
set_option maxHeartbeats 2000000 in
/-- .. and at the nil map. -/
theorem resource_nil (name : ByteArray) (w : World) :
    Calls Yba.prog 6 #[.string name, .map none] w fun e w' => e = .returned (.agg #[.string name, .slice none 0 0]) ∧ Below w.heap.size w w' := by
  go_enter Yba.func6, Yba.ntmps6
  go_wp2_with (first
    | (go_at_call 8; refine (Yba.keys_c _ _).mono ?_; rintro e w' ⟨rfl, rfl⟩)
    | (go_at_call 7; refine (sorted_nil_at w _ _).mono ?_; rintro e W ⟨rfl, hbW⟩))
  have h2 : IvR w.heap.size name (.slice none 0 0) (((w.alloc (.cells #[.string ⟨#[]⟩, .slice none 0 0] 38)).alloc (.cells #[.string name, .slice none 0 0] 38)).alloc (.cells #[.map none] 32)) :=
    ⟨by go_simp, by go_simp, by go_simp, by go_simp, by go_simp, by go_simp, by go_simp⟩
  have h3 := h2.keep (w' := W) (hbW.block _ (by omega)) (hbW.block _ (by omega))
  have hb3 := hide (((((Below.refl w.heap.size w).alloc (Nat.le_refl _) (.cells #[.string ⟨#[]⟩, .slice none 0 0] 38)).alloc (by simp) (.cells #[.string name, .slice none 0 0] 38)).alloc (by simp; omega) (.cells #[.map none] 32)).trans (hbW.mono (by omega)))
  clear h2 hbW
  obtain ⟨c0, c1, z1, r0, r1, y0, y1⟩ := h3
  go_loopw [7, 14] (fun _ i wr => i = .int .i64 0 ∧ wr = W) (fun _ i _ => 0)
  case atStart => exact ⟨rfl, rfl⟩
  case round =>
    obtain ⟨rfl, rfl⟩ := hrel
    go_wp2
    (try simp only [Exit.inBlock, Exit.then])
    have e0 : (wr.setCell ⟨w.heap.size, 0, none⟩ (.string name)).cell? ⟨w.heap.size, 0, none⟩ = some (.string name) := World.cell?_setCell_same' _ _ _ (by rw [r0]; rfl)
    have e1 : ((wr.setCell ⟨w.heap.size, 0, none⟩ (.string name)).setCell ⟨w.heap.size, 1, none⟩ (.slice none 0 0)).cell? ⟨w.heap.size, 1, none⟩ = some (.slice none 0 0) :=
      World.cell?_setCell_same' _ _ _ (by rw [show (wr.setCell ⟨w.heap.size, 0, none⟩ (.string name)).cell? ⟨w.heap.size, 1, none⟩ = some (.slice none 0 0) from by go_simp]; rfl)
    refine bodyPost_ret (by simp [results, go_sem, e0, e1, Result.andThen]; try rfl) rfl ?_
    exact ⟨rfl, (hb3.out.setCell (by simp) _).setCell (by simp) _⟩
end Go.Proofs.Ybulkapmm
