/-
  LawS2049CLine: the walks of the law itself, one a way: a long token; the root; by Key; by Index (the index not negative; negative).
-/
import Derived.Test.YbulkapkiDoorLine
namespace Go.Proofs.YbulkapkiDoor
open Go.RowKit Go.Shelf

theorem zz_any (s : ByteArray) (w : World) :
    Calls Ybad.prog 5 #[.string s] w fun e w' => e = .returned (.tuple #[.int .i64 (ansI s), .bool (ansOk s)]) ∧ w' = w := by
  unfold ansI ansOk
  cases hg : good s.data.toList with
  | true => exact zz_good s hg w
  | false => exact zz_bad s hg w

theorem law_long (n idx : Int) (useKey : Bool) (tok : ByteArray) (depth : Int) (key : Bool) (w : World) (h : 1024 < tok.size) :
    Calls Ybad.prog 3 #[.int .i64 n, .int .i64 idx, .bool useKey, .string tok, .int .u8 depth, .bool key] w fun e w' => e = .returned (.bool true) ∧ Below w.heap.size w w' := by
  go_enter Ybad.func3, Ybad.ntmps3
  go_wp2
  go_ret
  exact ⟨rfl, Below.refl _ _⟩

set_option maxHeartbeats 400000 in
theorem law_root (n idx : Int) (useKey : Bool) (tok : ByteArray) (depth : Int) (key : Bool) (w : World) (h : tok.size ≤ 1024) (d0 : 0 ≤ depth) (d1 : depth ≤ 255) (hd : depth % 4 = 0) :
    Calls Ybad.prog 3 #[.int .i64 n, .int .i64 idx, .bool useKey, .string tok, .int .u8 depth, .bool key] w fun e w' => e = .returned (.bool true) ∧ Below w.heap.size w w' := by
  go_enter Ybad.func3, Ybad.ntmps3
  go_wp2_with fail
  refine (line_root _ _ _ _ _).mono ?_
  rintro e w1 ⟨rfl, hb1⟩
  have hn1 : w1.cell? ⟨w.heap.size + 1, 2, none⟩ = some (.int .i64 n) := (hb1.cell (by show w.heap.size + 1 < _; simp)).trans (by go_simp)
  go_wp2
  go_ret
  exact ⟨rfl, (((Below.refl _ _).alloc (Nat.le_refl _) _).alloc (by simp) _).trans (hb1.mono (by simp; omega))⟩

theorem three_set3 {w : World} {P : Nat} {a b c x y z : Value} (h : Three w P a b c) : Three (((w.setCell ⟨P, 0, none⟩ x).setCell ⟨P, 1, none⟩ y).setCell ⟨P, 2, none⟩ z) P x y z := by
  obtain ⟨c0, c1, c2, f0, f1, f2⟩ := h
  exact ⟨by go_simp, by go_simp, by go_simp, by go_simp, by go_simp, by go_simp⟩

/-- THE LOOP's RELATION: the variable p (block P) holds a pointer whose first token is tok. -/
structure Rel (w : World) (tok : ByteArray) (wr : World) : Prop where
  bel : Below w.heap.size w wr
  ex : ∃ (d N : Nat) (t : ByteArray) (m : Int), Three wr w.heap.size (.pointer (some ⟨N, 0, none⟩)) (.string t) (.int .i64 m) ∧ Chain wr tok w.heap.size d wr.heap.size (.pointer (some ⟨N, 0, none⟩)) t

/-- One token more: by Member (N' is the first new block) or by Index. -/
theorem rel_step {w wr w1 : World} {tok t t' : ByteArray} {d N N' : Nat} {m m' : Int} (hbel : Below w.heap.size w wr) (hP : w.heap.size < wr.heap.size)
    (h3 : Three wr w.heap.size (.pointer (some ⟨N, 0, none⟩)) (.string t) (.int .i64 m)) (hC : Chain wr tok w.heap.size d wr.heap.size (.pointer (some ⟨N, 0, none⟩)) t)
    (hb : Below wr.heap.size wr w1) (hN : wr.heap.size ≤ N') (hN1 : N' < w1.heap.size) (c0 : w1.cell? ⟨N', 0, none⟩ = some (.pointer (some ⟨N, 0, none⟩))) (c1 : w1.cell? ⟨N', 1, none⟩ = some (.string t)) :
    Rel w tok (((w1.setCell ⟨w.heap.size, 0, none⟩ (.pointer (some ⟨N', 0, none⟩))).setCell ⟨w.heap.size, 1, none⟩ (.string t')).setCell ⟨w.heap.size, 2, none⟩ (.int .i64 m')) := by
  refine ⟨below_set3 (hbel.trans (hb.mono (by omega))) (Nat.le_refl _) _ _ _, d + 1, N', t', m', three_set3 (h3.below hb hP), ?_⟩
  refine Chain.set3 _ _ _ ⟨N', _, t, by omega, by simpa [World.setCell] using hN1, rfl, c0, c1, ?_⟩
  exact (hC.below hb (Nat.le_refl _)).mono hN

/-- The first token: by Key or by Index, from the root. -/
theorem rel_first {w w1 : World} {tok : ByteArray} {N' : Nat} {m' : Int} {t0 : ByteArray} {m0 : Int}
    (hb : Below (w.heap.size + 1) (w.alloc (.cells #[.pointer none, .string t0, .int .i64 m0] 24)) w1) (hN : w.heap.size < N') (hN1 : N' < w1.heap.size) (c0 : w1.cell? ⟨N', 0, none⟩ = some (.pointer none)) :
    Rel w tok (((w1.setCell ⟨w.heap.size, 0, none⟩ (.pointer (some ⟨N', 0, none⟩))).setCell ⟨w.heap.size, 1, none⟩ (.string tok)).setCell ⟨w.heap.size, 2, none⟩ (.int .i64 m')) := by
  have h0 := three_new w (.pointer none) (.string t0) (.int .i64 m0) 24
  refine ⟨below_set3 (((Below.refl _ _).alloc (Nat.le_refl _) _).trans (hb.mono (by omega))) (Nat.le_refl _) _ _ _, 0, N', tok, m', three_set3 (h0.below hb (by omega)), ?_⟩
  exact Chain.set3 (d := 0) _ _ _ ⟨N', hN, by simpa [World.setCell] using hN1, rfl, c0, rfl⟩

/-- What the law wants against what line answers. -/
theorem six (ok : Bool) (i n : Int) (key : Bool) (h0 : 0 ≤ i) :
    (ok = false ∧ lineRes ok i n key = 0) ∨
    (ok = true ∧ key = false ∧ n ≤ i ∧ lineRes ok i n key = 0) ∨
    (ok = true ∧ key = false ∧ i < n ∧ lineRes ok i n key = wrap64 (i + 2)) ∨
    (ok = true ∧ key = true ∧ i < n ∧ lineRes ok i n key = 1) ∨
    (ok = true ∧ key = true ∧ n ≤ i ∧ (i == 0) = true ∧ lineRes ok i n key = 1) ∨
    (ok = true ∧ key = true ∧ n ≤ i ∧ (i == 0) = false ∧ lineRes ok i n key = 0) := by
  unfold lineRes
  cases ok with
  | false => exact .inl ⟨rfl, by simp⟩
  | true =>
    cases key with
    | false =>
      by_cases h : n ≤ i
      · exact .inr (.inl ⟨rfl, rfl, h, by simp [h]⟩)
      · exact .inr (.inr (.inl ⟨rfl, rfl, by omega, by simp [h]⟩))
    | true =>
      by_cases h : i < n
      · exact .inr (.inr (.inr (.inl ⟨rfl, rfl, h, by rw [if_neg (by simp), if_pos ⟨rfl, by omega⟩]⟩)))
      · by_cases hz : i = 0
        · exact .inr (.inr (.inr (.inr (.inl ⟨rfl, rfl, by omega, beq_iff_eq.2 hz, by rw [if_neg (by simp), if_pos ⟨rfl, by omega⟩]⟩))))
        · exact .inr (.inr (.inr (.inr (.inr ⟨rfl, rfl, by omega, beq_eq_false_iff_ne.2 hz, by rw [if_neg (by simp), if_neg (by omega), if_pos (by omega)]⟩))))

theorem ansI_nonneg (s : ByteArray) : 0 ≤ ansI s := by unfold ansI; split <;> omega

set_option maxRecDepth 100000 in
set_option maxHeartbeats 2000000 in
theorem law_key (n idx : Int) (tok : ByteArray) (depth : Int) (key : Bool) (w : World) (h : tok.size ≤ 1024) (d0 : 0 ≤ depth) (d1 : depth ≤ 255) (hd : 0 < depth % 4) (hE : Hid (Env w)) :
    Calls Ybad.prog 3 #[.int .i64 n, .int .i64 idx, .bool true, .string tok, .int .u8 depth, .bool key] w fun e w' => e = .returned (.bool true) ∧ Below w.heap.size w w' := by
  have CZ := zz_any tok
  have CL := fun L par t m lo d B W => line_chain L n par t tok m key lo d B h W
  have hi0 := ansI_nonneg tok
  generalize ansOk tok = ok at *
  generalize ansI tok = i at *
  have HCZ : Hid _ := CZ
  have HCL : Hid _ := CL
  clear CZ CL
  go_enter Ybad.func3, Ybad.ntmps3
  go_wp2_with fail
  refine (key_c _ _ _ _ ⟨_, rfl⟩ _).mono ?_
  rintro e w1 ⟨rfl, hb1, hs1, k0, k1⟩
  have R1 := rel_first (tok := tok) (m' := 0) (N' := w.heap.size + 1) (hb1.mono (by simp)) (by omega) (by simpa using hs1) (by simpa using k0)
  obtain ⟨p0, p1, p2, q0, q1, q2⟩ := (three_new w (.pointer none) (.string ⟨#[]⟩) (.int .i64 0) 24).below hb1 (by simp)
  go_wp2_with fail
  refine (HCZ.out _).mono ?_
  rintro e w2 ⟨rfl, rfl⟩
  clear p0 p1 p2 q0 q1 q2 k0 k1 hs1 hb1
  go_wp2
  go_loopw [18] (fun k wr => ∃ kk : Nat, 1 ≤ kk ∧ (kk : Int) ≤ depth % 4 ∧ k = .int .i64 kk ∧ Rel w tok wr) (fun k _ => 4 - (intOf k).toNat)
  case atStart => exact ⟨1, by omega, by omega, rfl, R1⟩
  case round =>
    obtain ⟨kk, hk1, hk2, rfl, hbel, d, N, t, m, H3, hC⟩ := hrel
    clear R1
    have h3 := H3
    obtain ⟨p0, p1, p2, q0, q1, q2⟩ := h3
    have hP : w.heap.size < wr.heap.size := World.block_lt_of_cell? _ _ p0
    have hEr := hE.out.below hbel
    by_cases hlt : (kk : Int) < depth % 4
    · have hkk : kk = 1 ∨ kk = 2 := by omega
      rcases hkk with rfl | rfl
      · go_wp2_with fail
        refine (member_c _ _ _ _ _ ⟨_, rfl⟩ (by omega) (by omega) _).mono ?_
        rintro e w3 ⟨rfl, hb3, hs3, k0, k1⟩
        have R2 := fun m' => rel_step (t' := tok) (m' := m') hbel hP H3 hC hb3 (Nat.le_refl _) hs3 k0 k1
        obtain ⟨r0, r1, r2, v0, v1, v2⟩ := H3.below hb3 hP
        clear hC hEr H3 k0 k1 p0 p1 p2 q0 q1 q2
        go_wp2
        go_roundw
        case rel => exact ⟨2, by omega, by omega, rfl, R2 _⟩
        case measure => simp [intOf]
      · go_wp2_with fail
        refine (index_c _ _ _ _ ⟨_, rfl⟩ (by omega) (by omega) _ hEr).mono ?_
        rintro e w3 ⟨N3, rfl, hb3, hn3, hs3, k0, k1⟩
        have R2 := fun t' m' => rel_step (t' := t') (m' := m') hbel hP H3 hC hb3 hn3 hs3 k0 k1
        obtain ⟨r0, r1, r2, v0, v1, v2⟩ := H3.below hb3 hP
        clear hC hEr H3 k0 k1 p0 p1 p2 q0 q1 q2
        go_wp2
        go_roundw
        case rel => exact ⟨3, by omega, by omega, rfl, R2 _ _⟩
        case measure => simp [intOf]
    · have hcl : ∀ X, Three (wr.alloc X) w.heap.size (.pointer (some ⟨N, 0, none⟩)) (.string t) (.int .i64 m) := fun X => H3.below ((Below.refl _ _).alloc (Nat.le_refl _) X) hP
      rcases six ok i n key hi0 with ⟨rfl, hres⟩ | ⟨rfl, rfl, g1, hres⟩ | ⟨rfl, rfl, g1, hres⟩ | ⟨rfl, rfl, g1, hres⟩ | ⟨rfl, rfl, g1, g2, hres⟩ | ⟨rfl, rfl, g1, g2, hres⟩
      all_goals
        have HR : Hid _ := hres
        clear hres
        go_wp2_with fail
        refine (HCL.out _ _ _ _ w.heap.size d wr.heap.size _ (hEr.below ((Below.refl _ _).alloc (Nat.le_refl _) _)) (by simp) (hC.below ((Below.refl _ _).alloc (Nat.le_refl _) _) (Nat.le_refl _)) (by simp) (by go_simp)).mono ?_
        rw [HR.out]
        rintro e w3 ⟨rfl, hb3⟩
        have hn1 : w3.cell? ⟨wr.heap.size, 2, none⟩ = some (.int .i64 n) := (hb3.cell (by show wr.heap.size < _; simp)).trans (by go_simp)
        go_wp2
        go_ret
        exact ⟨rfl, (hbel.trans ((Below.refl _ _).alloc (by omega) _)).trans (hb3.mono (by simp; omega))⟩

theorem idx_facts (i : Int) (h0 : 0 ≤ i) (h1 : i ≤ 9223372036854775807) : (⟨(Lib.itoa i).toArray⟩ : ByteArray).size ≤ 1024 ∧ ansOk ⟨(Lib.itoa i).toArray⟩ = true ∧ ansI ⟨(Lib.itoa i).toArray⟩ = i := by
  obtain ⟨u, rfl⟩ : ∃ u : Nat, i = (u : Int) := ⟨i.toNat, by omega⟩
  have hg := good_digits (u := u) (by omega)
  have hv := (decDigits_all u).2.1
  rw [Lib.itoa_nonneg]
  refine ⟨?_, ?_, ?_⟩
  · have := (good_parts hg).2.1
    show (Lib.decDigits u).toArray.size ≤ 1024
    rw [List.size_toArray]
    omega
  · simpa [ansOk] using hg
  · simp [ansI, hg, hv]

set_option maxRecDepth 100000 in
set_option maxHeartbeats 2000000 in
theorem law_idx (n idx : Int) (tok : ByteArray) (depth : Int) (key : Bool) (w : World) (h : tok.size ≤ 1024) (d0 : 0 ≤ depth) (d1 : depth ≤ 255) (hd : 0 < depth % 4) (hE : Hid (Env w)) (hx0 : 0 ≤ idx) (hx1 : idx ≤ 9223372036854775807) :
    Calls Ybad.prog 3 #[.int .i64 n, .int .i64 idx, .bool false, .string tok, .int .u8 depth, .bool key] w fun e w' => e = .returned (.bool true) ∧ Below w.heap.size w w' := by
  obtain ⟨F1, F2, F3⟩ := idx_facts (idx) (by omega) (by omega)
  have CL := fun L par t m lo d B W => line_chain L n par t ⟨(Lib.itoa (idx)).toArray⟩ m key lo d B F1 W
  rw [F2, F3] at CL
  have HCL : Hid _ := CL
  clear CL F1 F2 F3
  go_enter Ybad.func3, Ybad.ntmps3
  go_wp2_with fail
  refine (index_c _ _ _ _ ⟨_, rfl⟩ (by omega) (by omega) _ (hE.out.below ((Below.refl _ _).alloc (Nat.le_refl _) _))).mono ?_
  rintro e w1 ⟨N1, rfl, hb1, hn1, hs1, k0, k1⟩
  have R1 := rel_first (tok := ⟨(Lib.itoa (idx)).toArray⟩) (m' := 0) (N' := N1) (hb1.mono (by simp)) (by simp at hn1; omega) hs1 k0
  obtain ⟨p0, p1, p2, q0, q1, q2⟩ := (three_new w (.pointer none) (.string ⟨#[]⟩) (.int .i64 0) 24).below hb1 (by simp)
  clear k0 k1 hs1 hb1 hn1
  go_wp2
  go_loopw [18] (fun k wr => ∃ kk : Nat, 1 ≤ kk ∧ (kk : Int) ≤ depth % 4 ∧ k = .int .i64 kk ∧ Rel w ⟨(Lib.itoa (idx)).toArray⟩ wr) (fun k _ => 4 - (intOf k).toNat)
  case atStart => exact ⟨1, by omega, by omega, rfl, R1⟩
  case round =>
    obtain ⟨kk, hk1, hk2, rfl, hbel, d, N, t, m, H3, hC⟩ := hrel
    clear R1
    have h3 := H3
    obtain ⟨p0, p1, p2, q0, q1, q2⟩ := h3
    have hP : w.heap.size < wr.heap.size := World.block_lt_of_cell? _ _ p0
    have hEr := hE.out.below hbel
    by_cases hlt : (kk : Int) < depth % 4
    · have hkk : kk = 1 ∨ kk = 2 := by omega
      rcases hkk with rfl | rfl
      · go_wp2_with fail
        refine (member_c _ _ _ _ _ ⟨_, rfl⟩ (by omega) (by omega) _).mono ?_
        rintro e w3 ⟨rfl, hb3, hs3, k0, k1⟩
        have R2 := fun m' => rel_step (t' := tok) (m' := m') hbel hP H3 hC hb3 (Nat.le_refl _) hs3 k0 k1
        obtain ⟨r0, r1, r2, v0, v1, v2⟩ := H3.below hb3 hP
        clear hC hEr H3 k0 k1 p0 p1 p2 q0 q1 q2
        go_wp2
        go_roundw
        case rel => exact ⟨2, by omega, by omega, rfl, R2 _⟩
        case measure => simp [intOf]
      · go_wp2_with fail
        refine (index_c _ _ _ _ ⟨_, rfl⟩ (by omega) (by omega) _ hEr).mono ?_
        rintro e w3 ⟨N3, rfl, hb3, hn3, hs3, k0, k1⟩
        have R2 := fun t' m' => rel_step (t' := t') (m' := m') hbel hP H3 hC hb3 hn3 hs3 k0 k1
        obtain ⟨r0, r1, r2, v0, v1, v2⟩ := H3.below hb3 hP
        clear hC hEr H3 k0 k1 p0 p1 p2 q0 q1 q2
        go_wp2
        go_roundw
        case rel => exact ⟨3, by omega, by omega, rfl, R2 _ _⟩
        case measure => simp [intOf]
    · have hcl : ∀ X, Three (wr.alloc X) w.heap.size (.pointer (some ⟨N, 0, none⟩)) (.string t) (.int .i64 m) := fun X => H3.below ((Below.refl _ _).alloc (Nat.le_refl _) X) hP
      rcases six true (idx) n key (by omega) with ⟨hf, hres⟩ | ⟨-, rfl, g1, hres⟩ | ⟨-, rfl, g1, hres⟩ | ⟨-, rfl, g1, hres⟩ | ⟨-, rfl, g1, g2, hres⟩ | ⟨-, rfl, g1, g2, hres⟩
      · cases hf
      all_goals
        have HR : Hid _ := hres
        clear hres
        go_wp2_with fail
        refine (HCL.out _ _ _ _ w.heap.size d wr.heap.size _ (hEr.below ((Below.refl _ _).alloc (Nat.le_refl _) _)) (by simp) (hC.below ((Below.refl _ _).alloc (Nat.le_refl _) _) (Nat.le_refl _)) (by simp) (by go_simp)).mono ?_
        rw [HR.out]
        rintro e w3 ⟨rfl, hb3⟩
        have hn1 : w3.cell? ⟨wr.heap.size, 2, none⟩ = some (.int .i64 n) := (hb3.cell (by show wr.heap.size < _; simp)).trans (by go_simp)
        go_wp2
        go_ret
        exact ⟨rfl, (hbel.trans ((Below.refl _ _).alloc (by omega) _)).trans (hb3.mono (by simp; omega))⟩

set_option maxRecDepth 100000 in
set_option maxHeartbeats 2000000 in
theorem law_neg (n idx : Int) (tok : ByteArray) (depth : Int) (key : Bool) (w : World) (h : tok.size ≤ 1024) (d0 : 0 ≤ depth) (d1 : depth ≤ 255) (hd : 0 < depth % 4) (hE : Hid (Env w)) (hx0 : -9223372036854775808 ≤ idx) (hx1 : idx < 0) :
    Calls Ybad.prog 3 #[.int .i64 n, .int .i64 idx, .bool false, .string tok, .int .u8 depth, .bool key] w fun e w' => e = .returned (.bool true) ∧ Below w.heap.size w w' := by
  obtain ⟨F1, F2, F3⟩ := idx_facts (-(idx + 1)) (by omega) (by omega)
  have CL := fun L par t m lo d B W => line_chain L n par t ⟨(Lib.itoa (-(idx + 1))).toArray⟩ m key lo d B F1 W
  rw [F2, F3] at CL
  have HCL : Hid _ := CL
  clear CL F1 F2 F3
  go_enter Ybad.func3, Ybad.ntmps3
  go_wp2_with fail
  refine (index_c _ _ _ _ ⟨_, rfl⟩ (by omega) (by omega) _ (hE.out.below ((Below.refl _ _).alloc (Nat.le_refl _) _))).mono ?_
  rintro e w1 ⟨N1, rfl, hb1, hn1, hs1, k0, k1⟩
  have R1 := rel_first (tok := ⟨(Lib.itoa (-(idx + 1))).toArray⟩) (m' := 0) (N' := N1) (hb1.mono (by simp)) (by simp at hn1; omega) hs1 k0
  obtain ⟨p0, p1, p2, q0, q1, q2⟩ := (three_new w (.pointer none) (.string ⟨#[]⟩) (.int .i64 0) 24).below hb1 (by simp)
  clear k0 k1 hs1 hb1 hn1
  go_wp2
  go_loopw [18] (fun k wr => ∃ kk : Nat, 1 ≤ kk ∧ (kk : Int) ≤ depth % 4 ∧ k = .int .i64 kk ∧ Rel w ⟨(Lib.itoa (-(idx + 1))).toArray⟩ wr) (fun k _ => 4 - (intOf k).toNat)
  case atStart => exact ⟨1, by omega, by omega, rfl, R1⟩
  case round =>
    obtain ⟨kk, hk1, hk2, rfl, hbel, d, N, t, m, H3, hC⟩ := hrel
    clear R1
    have h3 := H3
    obtain ⟨p0, p1, p2, q0, q1, q2⟩ := h3
    have hP : w.heap.size < wr.heap.size := World.block_lt_of_cell? _ _ p0
    have hEr := hE.out.below hbel
    by_cases hlt : (kk : Int) < depth % 4
    · have hkk : kk = 1 ∨ kk = 2 := by omega
      rcases hkk with rfl | rfl
      · go_wp2_with fail
        refine (member_c _ _ _ _ _ ⟨_, rfl⟩ (by omega) (by omega) _).mono ?_
        rintro e w3 ⟨rfl, hb3, hs3, k0, k1⟩
        have R2 := fun m' => rel_step (t' := tok) (m' := m') hbel hP H3 hC hb3 (Nat.le_refl _) hs3 k0 k1
        obtain ⟨r0, r1, r2, v0, v1, v2⟩ := H3.below hb3 hP
        clear hC hEr H3 k0 k1 p0 p1 p2 q0 q1 q2
        go_wp2
        go_roundw
        case rel => exact ⟨2, by omega, by omega, rfl, R2 _⟩
        case measure => simp [intOf]
      · go_wp2_with fail
        refine (index_c _ _ _ _ ⟨_, rfl⟩ (by omega) (by omega) _ hEr).mono ?_
        rintro e w3 ⟨N3, rfl, hb3, hn3, hs3, k0, k1⟩
        have R2 := fun t' m' => rel_step (t' := t') (m' := m') hbel hP H3 hC hb3 hn3 hs3 k0 k1
        obtain ⟨r0, r1, r2, v0, v1, v2⟩ := H3.below hb3 hP
        clear hC hEr H3 k0 k1 p0 p1 p2 q0 q1 q2
        go_wp2
        go_roundw
        case rel => exact ⟨3, by omega, by omega, rfl, R2 _ _⟩
        case measure => simp [intOf]
    · have hcl : ∀ X, Three (wr.alloc X) w.heap.size (.pointer (some ⟨N, 0, none⟩)) (.string t) (.int .i64 m) := fun X => H3.below ((Below.refl _ _).alloc (Nat.le_refl _) X) hP
      rcases six true (-(idx + 1)) n key (by omega) with ⟨hf, hres⟩ | ⟨-, rfl, g1, hres⟩ | ⟨-, rfl, g1, hres⟩ | ⟨-, rfl, g1, hres⟩ | ⟨-, rfl, g1, g2, hres⟩ | ⟨-, rfl, g1, g2, hres⟩
      · cases hf
      all_goals
        have HR : Hid _ := hres
        clear hres
        go_wp2_with fail
        refine (HCL.out _ _ _ _ w.heap.size d wr.heap.size _ (hEr.below ((Below.refl _ _).alloc (Nat.le_refl _) _)) (by simp) (hC.below ((Below.refl _ _).alloc (Nat.le_refl _) _) (Nat.le_refl _)) (by simp) (by go_simp)).mono ?_
        rw [HR.out]
        rintro e w3 ⟨rfl, hb3⟩
        have hn1 : w3.cell? ⟨wr.heap.size, 2, none⟩ = some (.int .i64 n) := (hb3.cell (by show wr.heap.size < _; simp)).trans (by go_simp)
        go_wp2
        go_ret
        exact ⟨rfl, (hbel.trans ((Below.refl _ _).alloc (by omega) _)).trans (hb3.mono (by simp; omega))⟩
end Go.Proofs.YbulkapkiDoor
