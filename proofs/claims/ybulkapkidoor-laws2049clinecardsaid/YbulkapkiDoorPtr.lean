/-
  Pointer.Key, Member, Index: the receiver is boxed in a new block.
-/
import Derived.Test.YbulkapkiDoorIdx
import Derived.Deep.RegionWith
namespace Go.Proofs.YbulkapkiDoor
open Go.RowKit Go.Shelf

/-- Pointer.Key: the receiver is boxed in a new block; the result points to it. -/
theorem key_c (par : Value) (t key : ByteArray) (m : Int) (hp : ∃ a, par = .pointer a) (w : World) :
    Calls Ybad.prog 4 #[.agg #[par, .string t, .int .i64 m], .string key] w fun e w' =>
      e = .returned (.agg #[.pointer (some ⟨w.heap.size, 0, none⟩), .string key, .int .i64 0]) ∧ Below w.heap.size w w' ∧ w.heap.size < w'.heap.size ∧
      w'.cell? ⟨w.heap.size, 0, none⟩ = some par ∧ w'.cell? ⟨w.heap.size, 1, none⟩ = some (.string t) := by
  obtain ⟨a, rfl⟩ := hp
  go_enter Ybad.func4, Ybad.ntmps4
  go_wp2
  exact bodyPost_ret (v := .agg #[.pointer (some ⟨w.heap.size, 0, none⟩), .string key, .int .i64 0]) (by simp [results, Ybad.results4, go_sem]) rfl
    ⟨rfl, ((Below.refl _ _).alloc (Nat.le_refl _) _).alloc (by simp) _, by simp; omega, by go_simp, by go_simp⟩

/-- Pointer.Member, likewise. -/
theorem member_c (par : Value) (t key : ByteArray) (m k : Int) (hp : ∃ a, par = .pointer a) (hk0 : 0 ≤ k) (hk1 : k ≤ 100) (w : World) :
    Calls Ybad.prog 7 #[.agg #[par, .string t, .int .i64 m], .int .i64 k, .string key] w fun e w' =>
      e = .returned (.agg #[.pointer (some ⟨w.heap.size, 0, none⟩), .string key, .int .i64 (k + 1)]) ∧ Below w.heap.size w w' ∧ w.heap.size < w'.heap.size ∧
      w'.cell? ⟨w.heap.size, 0, none⟩ = some par ∧ w'.cell? ⟨w.heap.size, 1, none⟩ = some (.string t) := by
  obtain ⟨a, rfl⟩ := hp
  go_enter Ybad.func7, Ybad.ntmps7
  go_wp2
  exact bodyPost_ret (v := .agg #[.pointer (some ⟨w.heap.size, 0, none⟩), .string key, .int .i64 (k + 1)]) (by simp [results, Ybad.results7, go_sem]) rfl
    ⟨rfl, ((Below.refl _ _).alloc (Nat.le_refl _) _).alloc (by simp) _, by simp; omega, by go_simp, by go_simp⟩

/-- Three cells of a block, and that none is frozen. -/
structure Three (w : World) (b : Nat) (x y z : Value) : Prop where
  c0 : w.cell? ⟨b, 0, none⟩ = some x
  c1 : w.cell? ⟨b, 1, none⟩ = some y
  c2 : w.cell? ⟨b, 2, none⟩ = some z
  f0 : w.frozen? ⟨b, 0, none⟩ = false
  f1 : w.frozen? ⟨b, 1, none⟩ = false
  f2 : w.frozen? ⟨b, 2, none⟩ = false
theorem Three.below {w w' : World} {b B : Nat} {x y z : Value} (h : Three w b x y z) (hb : Below B w w') (hB : b < B) : Three w' b x y z :=
  ⟨(hb.cell hB).trans h.c0, (hb.cell hB).trans h.c1, (hb.cell hB).trans h.c2, (hb.frozen hB).trans h.f0, (hb.frozen hB).trans h.f1, (hb.frozen hB).trans h.f2⟩
theorem three_new (w : World) (x y z : Value) (t : TypeId) : Three (w.alloc (.cells #[x, y, z] t)) w.heap.size x y z :=
  ⟨by go_simp, by go_simp, by go_simp, by go_simp, by go_simp, by go_simp⟩
theorem three_new' (w : World) (x y z x' y' z' : Value) (t t' : TypeId) : Three ((w.alloc (.cells #[x', y', z'] t')).alloc (.cells #[x, y, z] t)) (w.heap.size + 1) x y z := by
  have := three_new (w.alloc (.cells #[x', y', z'] t')) x y z t
  simpa using this

/-- Three stores into block q. -/
theorem below_set3 {B q : Nat} {a w : World} (h : Below B a w) (hq : B ≤ q) (x y z : Value) : Below B a (((w.setCell ⟨q, 0, none⟩ x).setCell ⟨q, 1, none⟩ y).setCell ⟨q, 2, none⟩ z) :=
  Below.setCell (p := ⟨q, 2, none⟩) (Below.setCell (p := ⟨q, 1, none⟩) (Below.setCell (p := ⟨q, 0, none⟩) h hq x) hq y) hq z
theorem cell_set3 {w : World} {q N o : Nat} (hne : q ≠ N) (x y z : Value) : (((w.setCell ⟨q, 0, none⟩ x).setCell ⟨q, 1, none⟩ y).setCell ⟨q, 2, none⟩ z).cell? ⟨N, o, none⟩ = w.cell? ⟨N, o, none⟩ := by
  rw [World.cell?_setCell_other _ _ _ _ (fun e => hne (congrArg Addr.block e)), World.cell?_setCell_other _ _ _ _ (fun e => hne (congrArg Addr.block e)), World.cell?_setCell_other _ _ _ _ (fun e => hne (congrArg Addr.block e))]
theorem size_set3 (w : World) (q : Nat) (x y z : Value) : (((w.setCell ⟨q, 0, none⟩ x).setCell ⟨q, 1, none⟩ y).setCell ⟨q, 2, none⟩ z).heap.size = w.heap.size := by simp [World.setCell]

/-- Pointer.Index: Itoa, then Key, in whatever order the operands are read. -/
theorem index_c (par : Value) (t : ByteArray) (m i : Int) (hp : ∃ a, par = .pointer a) (hi0 : 0 ≤ i) (hi1 : i ≤ 9223372036854775807) (w : World) (hE : Env w) :
    Calls Ybad.prog 6 #[.agg #[par, .string t, .int .i64 m], .int .i64 i] w fun e w' => ∃ N,
      e = .returned (.agg #[.pointer (some ⟨N, 0, none⟩), .string ⟨(Lib.itoa i).toArray⟩, .int .i64 0]) ∧ Below w.heap.size w w' ∧ w.heap.size ≤ N ∧ N < w'.heap.size ∧
      w'.cell? ⟨N, 0, none⟩ = some par ∧ w'.cell? ⟨N, 1, none⟩ = some (.string t) := by
  obtain ⟨a, rfl⟩ := hp
  have T0 := ((three_new w (.pointer a) (.string t) (.int .i64 m) 24).below (((Below.refl _ _).alloc (Nat.le_refl _) (.cells #[.pointer none, .string ⟨#[]⟩, .int .i64 0] 24))) (by simp))
  have T1 := three_new' w (.pointer none) (.string ⟨#[]⟩) (.int .i64 0) (.pointer a) (.string t) (.int .i64 m) 24 24
  have hB : Below w.heap.size w ((w.alloc (.cells #[.pointer a, .string t, .int .i64 m] 24)).alloc (.cells #[.pointer none, .string ⟨#[]⟩, .int .i64 0] 24)) := ((Below.refl _ _).alloc (Nat.le_refl _) _).alloc (by simp) _
  have hS : ((w.alloc (.cells #[.pointer a, .string t, .int .i64 m] 24)).alloc (.cells #[.pointer none, .string ⟨#[]⟩, .int .i64 0] 24)).heap.size = w.heap.size + 2 := by simp
  have HT0 := And.intro T0 T1
  have HK : Hid (Env w ∧ _ ∧ _ ∧ _) := And.intro hE (And.intro HT0 (And.intro hB hS))
  clear T0 T1 hB hS HT0 hE
  go_enter Ybad.func6, Ybad.ntmps6
  go_wp2
  go_region_with (first
    | (go_at_call 9; refine (itoa_c i (by omega) hi1 _ ?_).mono ?_; (exact HK.out.1.below HK.out.2.2.1.drew); rintro e w1 ⟨rfl, hb1⟩; have S0 := HK.out.2.1.1.below ((Below.refl _ _).drew.trans hb1) (by rw [World.size_drew, HK.out.2.2.2]; omega); have S1 := HK.out.2.1.2.below ((Below.refl _ _).drew.trans hb1) (by rw [World.size_drew, HK.out.2.2.2]; omega); have hz1 := hb1.size; rw [World.size_drew, HK.out.2.2.2] at hz1; obtain ⟨c0, c1, c2, -, -, -⟩ := S0)
    | (go_at_call 4; refine (key_c _ _ _ _ ⟨_, rfl⟩ _).mono ?_; rintro e w2 ⟨rfl, hb2, hs2, k0, k1⟩; obtain ⟨d0, d1, d2, g0, g1, g2⟩ := S1.below hb2 (by omega); clear c0 c1 c2))
  all_goals
    go_wp2
    have hb : Below w.heap.size w w2 := (HK.out.2.2.1.drew.trans (hb1.mono (by rw [World.size_drew, HK.out.2.2.2]; omega))).trans (hb2.mono (by omega))
    exact bodyPost_ret (v := .agg #[.pointer (some ⟨w1.heap.size, 0, none⟩), .string ⟨(Lib.itoa i).toArray⟩, .int .i64 0]) (by simp [results, Ybad.results6, go_sem, d0, d1, d2]) rfl
      ⟨w1.heap.size, rfl, below_set3 hb (by omega) _ _ _, by omega, by rw [size_set3]; exact hs2, (cell_set3 (by omega) _ _ _).trans k0, (cell_set3 (by omega) _ _ _).trans k1⟩
end Go.Proofs.YbulkapkiDoor
