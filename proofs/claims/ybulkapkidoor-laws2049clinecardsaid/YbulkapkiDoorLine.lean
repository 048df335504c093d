/-
  Pointer.Item along a chain of parents; (*list).line.
-/
import Derived.Test.YbulkapkiDoorPtr
namespace Go.Proofs.YbulkapkiDoor
open Go.RowKit Go.Shelf

/-- THE CHAIN OF A POINTER's PARENTS: 'par' and 't' are the parent and the token of a pointer of depth d + 1 whose first token is 'tok'; every parent lies behind block lo and below block B, each below its child's. -/
def Chain (w : World) (tok : ByteArray) (lo : Nat) : Nat → Nat → Value → ByteArray → Prop
  | 0, B, par, t => ∃ N, lo < N ∧ N < B ∧ par = .pointer (some ⟨N, 0, none⟩) ∧ w.cell? ⟨N, 0, none⟩ = some (.pointer none) ∧ t = tok
  | d + 1, B, par, _ => ∃ N par' t', lo < N ∧ N < B ∧ par = .pointer (some ⟨N, 0, none⟩) ∧ w.cell? ⟨N, 0, none⟩ = some par' ∧ w.cell? ⟨N, 1, none⟩ = some (.string t') ∧ Chain w tok lo d N par' t'

theorem Chain.ptr {w : World} {tok : ByteArray} {lo : Nat} : ∀ {d B : Nat} {par : Value} {t : ByteArray}, Chain w tok lo d B par t → ∃ N, N < B ∧ par = .pointer (some ⟨N, 0, none⟩)
  | 0, _, _, _, ⟨N, _, h, e, _⟩ => ⟨N, h, e⟩
  | _ + 1, _, _, _, ⟨N, _, _, _, h, e, _⟩ => ⟨N, h, e⟩
theorem Chain.below {w w' : World} {tok : ByteArray} {lo C : Nat} (hb : Below C w w') : ∀ {d B : Nat} {par : Value} {t : ByteArray}, B ≤ C → Chain w tok lo d B par t → Chain w' tok lo d B par t
  | 0, _, _, _, hB, ⟨N, h0, h, e, hc, et⟩ => ⟨N, h0, h, e, (hb.cell (show N < C by omega)).trans hc, et⟩
  | d + 1, _, _, _, hB, ⟨N, p, t, h0, h, e, hc, hc1, hr⟩ => ⟨N, p, t, h0, h, e, (hb.cell (show N < C by omega)).trans hc, (hb.cell (show N < C by omega)).trans hc1, Chain.below hb (by omega) hr⟩
theorem Chain.mono {w : World} {tok : ByteArray} {lo C : Nat} : ∀ {d B : Nat} {par : Value} {t : ByteArray}, B ≤ C → Chain w tok lo d B par t → Chain w tok lo d C par t
  | 0, _, _, _, hB, ⟨N, h0, h, r⟩ => ⟨N, h0, by omega, r⟩
  | _ + 1, _, _, _, hB, ⟨N, p, t, h0, h, r⟩ => ⟨N, p, t, h0, by omega, r⟩
/-- Three stores into block lo leave the chain as it is. -/
theorem Chain.set3 {w : World} {tok : ByteArray} {lo : Nat} (x y z : Value) : ∀ {d B : Nat} {par : Value} {t : ByteArray}, Chain w tok lo d B par t →
    Chain (((w.setCell ⟨lo, 0, none⟩ x).setCell ⟨lo, 1, none⟩ y).setCell ⟨lo, 2, none⟩ z) tok lo d B par t
  | 0, _, _, _, ⟨N, h0, h, e, hc, et⟩ => ⟨N, h0, h, e, (cell_set3 (by omega) x y z).trans hc, et⟩
  | d + 1, _, _, _, ⟨N, p, t, h0, h, e, hc, hc1, hr⟩ => ⟨N, p, t, h0, h, e, (cell_set3 (by omega) x y z).trans hc, (cell_set3 (by omega) x y z).trans hc1, Chain.set3 x y z hr⟩

def blockOf : Value → Nat
  | .pointer (some a) => a.block
  | _ => 0

/-- Pointer.Item at the root. -/
theorem item_root (t : ByteArray) (m : Int) (w : World) :
    Calls Ybad.prog 10 #[.agg #[.pointer none, .string t, .int .i64 m]] w fun e w' => e = .returned (.tuple #[.int .i64 0, .bool false]) ∧ Below w.heap.size w w' := by
  go_enter Ybad.func10, Ybad.ntmps10
  go_wp2
  go_ret2
  exact ⟨rfl, (Below.refl _ _).alloc (Nat.le_refl _) _⟩

/-- What ArrayIndex answers. -/
def ansI (s : ByteArray) : Int := if good s.data.toList = true then (val 0 s.data.toList : Nat) else 0
def ansOk (s : ByteArray) : Bool := good s.data.toList
theorem arr_any (s : ByteArray) (hs : s.size ≤ 1024) (w : World) (hE : Env w) :
    Calls Ybad.prog 12 #[.string s] w fun e w' => e = .returned (.tuple #[.int .i64 (ansI s), .bool (ansOk s)]) ∧ Below w.heap.size w w' := by
  unfold ansI ansOk
  cases hg : good s.data.toList with
  | true => exact arr_good s hs hg w hE
  | false => exact arr_bad s hs hg w hE

def ItemRel (W : World) (tok : ByteArray) (lo : Nat) (q : Value) : Prop :=
  ∃ (Q d : Nat) (par : Value) (t : ByteArray), q = .pointer (some ⟨Q, 0, none⟩) ∧ W.cell? ⟨Q, 0, none⟩ = some par ∧ W.cell? ⟨Q, 1, none⟩ = some (.string t) ∧ Chain W tok lo d Q par t

/-- Pointer.Item below the root: what ArrayIndex answers of the first token. -/
theorem item_chain (par : Value) (t tok : ByteArray) (m : Int) (lo d B : Nat) (hs : tok.size ≤ 1024) (w : World) (hE : Env w) (hB : B ≤ w.heap.size) (hC : Chain w tok lo d B par t) :
    Calls Ybad.prog 10 #[.agg #[par, .string t, .int .i64 m]] w fun e w' => e = .returned (.tuple #[.int .i64 (ansI tok), .bool (ansOk tok)]) ∧ Below w.heap.size w w' := by
  obtain ⟨N, hN, rfl⟩ := hC.ptr
  have hC2 := hC.below ((Below.refl w.heap.size w).alloc (Nat.le_refl _) (.cells #[.pointer (some ⟨N, 0, none⟩), .string t, .int .i64 m] 24)) hB
  have hC3 := hC2.mono hB
  have hT := three_new w (.pointer (some ⟨N, 0, none⟩)) (.string t) (.int .i64 m) 24
  have hb := (Below.refl w.heap.size w).alloc (Nat.le_refl _) (.cells #[.pointer (some ⟨N, 0, none⟩), .string t, .int .i64 m] 24)
  have HK : Hid (_ ∧ _ ∧ _) := And.intro hC3 (And.intro hT hb)
  clear hC hC2 hC3 hT hb
  go_enter Ybad.func10, Ybad.ntmps10
  go_wp2
  go_loop [4] (fun q => ItemRel (w.alloc (.cells #[.pointer (some ⟨N, 0, none⟩), .string t, .int .i64 m] 24)) tok lo q) (fun q => blockOf q)
  case atStart => exact ⟨_, d, _, t, rfl, HK.out.2.1.c0, HK.out.2.1.c1, HK.out.1⟩
  case round =>
    obtain ⟨Q, d2, par, t2, rfl, hc0, hc1, hch⟩ := hrel
    cases d2 with
    | zero =>
      obtain ⟨M, -, hM, rfl, hm0, rfl⟩ := hch
      have hE2 := hE.below HK.out.2.2
      go_wp2_with fail
      refine (arr_any _ hs _ hE2).mono ?_
      rintro e w1 ⟨rfl, hb1⟩
      go_wp2
      go_ret2
      exact ⟨rfl, HK.out.2.2.trans (hb1.mono (by simp))⟩
    | succ d2 =>
      obtain ⟨M, par2, t3, -, hM, rfl, hm0, hm1, hch2⟩ := hch
      obtain ⟨M2, hM2, rfl⟩ := hch2.ptr
      go_wp2
      go_round
      case rel => exact ⟨M, d2, _, t3, rfl, hm0, hm1, hch2⟩
      case measure => simp [blockOf]; omega

/-- What line answers. -/
def lineRes (ok : Bool) (i n : Int) (key : Bool) : Int :=
  if ok = false then 0 else if key = true ∧ i < max n 1 then 1 else if n ≤ i then 0 else wrap64 (i + 2)

set_option maxHeartbeats 400000 in
theorem line_root (L : Nat) (t : ByteArray) (m : Int) (key : Bool) (w : World) :
    Calls Ybad.prog 8 #[.pointer (some ⟨L, 0, none⟩), .agg #[.pointer none, .string t, .int .i64 m], .bool key] w fun e w' => e = .returned (.int .i64 0) ∧ Below w.heap.size w w' := by
  go_enter Ybad.func8, Ybad.ntmps8
  go_wp2_with fail
  refine (item_root _ _ _).mono ?_
  rintro e w1 ⟨rfl, hb1⟩
  go_wp2
  go_ret
  exact ⟨rfl, ((Below.refl _ _).alloc (Nat.le_refl _) _).trans (hb1.mono (by simp))⟩

set_option maxHeartbeats 1000000 in
theorem line_chain (L : Nat) (n : Int) (par : Value) (t tok : ByteArray) (m : Int) (key : Bool) (lo d B : Nat) (hs : tok.size ≤ 1024) (w : World) (hE : Env w) (hB : B ≤ w.heap.size) (hC : Chain w tok lo d B par t)
    (hL : L < w.heap.size) (hn : w.cell? ⟨L, 2, none⟩ = some (.int .i64 n)) :
    Calls Ybad.prog 8 #[.pointer (some ⟨L, 0, none⟩), .agg #[par, .string t, .int .i64 m], .bool key] w fun e w' => e = .returned (.int .i64 (lineRes (ansOk tok) (ansI tok) n key)) ∧ Below w.heap.size w w' := by
  obtain ⟨N, hN, rfl⟩ := hC.ptr
  have hb := (Below.refl w.heap.size w).alloc (Nat.le_refl _) (.cells #[.pointer (some ⟨N, 0, none⟩), .string t, .int .i64 m] 24)
  have K := item_chain _ t tok m lo d B hs _ (hE.below hb) (by simp; omega) (hC.below hb hB)
  generalize ansOk tok = ok at *
  generalize ansI tok = i at *
  have HK : Hid _ := And.intro K hb
  have hn0 := (hb.cell (p := ⟨L, 2, none⟩) hL).trans hn
  clear K hb hC hE hB hs
  cases ok with
  | false =>
    go_enter Ybad.func8, Ybad.ntmps8
    go_wp2_with fail
    refine HK.out.1.mono ?_
    rintro e w1 ⟨rfl, hb1⟩
    go_wp2
    go_ret
    exact ⟨rfl, HK.out.2.trans (hb1.mono (by simp))⟩
  | true =>
    have key4 : (key = false ∧ n ≤ i ∧ lineRes true i n key = 0) ∨ (key = false ∧ i < n ∧ lineRes true i n key = wrap64 (i + 2)) ∨ (key = true ∧ n ≤ 1 ∧ i < 1 ∧ lineRes true i n key = 1) ∨
        (key = true ∧ n ≤ 1 ∧ 1 ≤ i ∧ lineRes true i n key = 0) ∨ (key = true ∧ 1 < n ∧ i < n ∧ lineRes true i n key = 1) ∨ (key = true ∧ 1 < n ∧ n ≤ i ∧ lineRes true i n key = 0) := by
      unfold lineRes
      cases key with
      | false =>
        by_cases h : n ≤ i
        · exact .inl ⟨rfl, h, by simp [h]⟩
        · exact .inr (.inl ⟨rfl, by omega, by simp [h]⟩)
      | true =>
        by_cases hm : n ≤ 1
        · by_cases hi : i < 1
          · exact .inr (.inr (.inl ⟨rfl, hm, hi, by rw [if_neg (by simp), if_pos ⟨rfl, by omega⟩]⟩))
          · exact .inr (.inr (.inr (.inl ⟨rfl, hm, by omega, by rw [if_neg (by simp), if_neg (by omega), if_pos (by omega)]⟩)))
        · by_cases hi : i < n
          · exact .inr (.inr (.inr (.inr (.inl ⟨rfl, by omega, hi, by rw [if_neg (by simp), if_pos ⟨rfl, by omega⟩]⟩))))
          · exact .inr (.inr (.inr (.inr (.inr ⟨rfl, by omega, by omega, by rw [if_neg (by simp), if_neg (by omega), if_pos (by omega)]⟩))))
    rcases key4 with ⟨rfl, h1, hres⟩ | ⟨rfl, h1, hres⟩ | ⟨rfl, h1, h2, hres⟩ | ⟨rfl, h1, h2, hres⟩ | ⟨rfl, h1, h2, hres⟩ | ⟨rfl, h1, h2, hres⟩
    all_goals
      rw [hres]
      clear hres
      go_enter Ybad.func8, Ybad.ntmps8
      go_wp2_with fail
      refine HK.out.1.mono ?_
      rintro e w1 ⟨rfl, hb1⟩
      have hn1 : w1.cell? ⟨L, 2, none⟩ = some (.int .i64 n) := (hb1.cell (by show L < _; simp; omega)).trans hn0
      go_wp2
      go_ret
      exact ⟨rfl, HK.out.2.trans (hb1.mono (by simp))⟩
end Go.Proofs.YbulkapkiDoor
