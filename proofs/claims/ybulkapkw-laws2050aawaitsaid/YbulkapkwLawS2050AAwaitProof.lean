/-
  LawS2050AAwait: the argument opened, the row's step (the frame is the kit's skeleton tool's, turned to a slice of structs), and the statement.
-/
import Derived.Test.YbulkapkwLaw
import Derived.Deep.Slices
import Derived.WalkKit
import Derived.ProofKit
import Derived.OpenShut
import Derived.ShutString
import Derived.ChangeOld
import Derived.Below
namespace Go.Proofs.Ybulkapkw.lawS2050AAwait
open Go.ChangeShapes Go.WideShapes Go.ChangeAt Go.RowKit
open Go.Deep (open_slice choose_lt)
open Go.ChangeMaps (open_string shut_string)
set_option linter.unusedVariables false

theorem own : ownKnob Yba.prog.godebug = none := by kernel_rfl
theorem laidOut : laidOutB Yba.prog = true := by kernel_rfl

theorem cells38 : Yba.prog.cellsOf 38 = 4 := by kernel_rfl
theorem cells9 : Yba.prog.cellsOf 9 = 1 := by kernel_rfl
theorem cells4 : Yba.prog.cellsOf 4 = 1 := by kernel_rfl

structure Entry where
  s : ByteArray
  a : Bool
  b : Bool
  c : Bool

theorem four_of {α : Type} : ∀ {l : List α}, l.length = 4 → ∃ a b c d, l = [a, b, c, d]
  | [a, b, c, d], _ => ⟨a, b, c, d, rfl⟩
  | [], h => by simp at h
  | [_], h => by simp at h
  | [_, _], h => by simp at h
  | [_, _, _], h => by simp at h
  | _ :: _ :: _ :: _ :: _ :: _, h => by simp at h

/-- One entry: a struct of a string and three bools. -/
theorem open_entry {H : Type} {enc : TypeId × Value → H} {w : World} {base : Nat} {spare : Nat → Bool} {held : Bool} {n : Nat} {cs : List Value} {x : DataW H × List MemPlace} (h : DataW.trod enc Yba.prog w base spare held n 38 cs = some x) :
    ∃ e : Entry, cs = [.string e.s, .bool e.a, .bool e.b, .bool e.c] ∧ e.s.size ≤ maxLen := by
  obtain ⟨xs, m, -, -, hlen, hxl, hf⟩ := DataW.trod_struct Yba.underlying38 h
  rw [cells38] at hlen
  obtain ⟨c0, c1, c2, c3, rfl⟩ := four_of hlen
  obtain ⟨x0, x1, x2, x3, rfl⟩ := four_of (show xs.length = 4 from hxl)
  have f0 := hf 0 _ rfl
  have f1 := hf 1 _ rfl
  have f2 := hf 2 _ rfl
  have f3 := hf 3 _ rfl
  simp [cells9, cells4] at f0 f1 f2 f3
  obtain ⟨s, e0, -, hs⟩ := DataW.trod_string Yba.underlying9 f0
  obtain ⟨a, e1, -⟩ := DataW.trod_bool Yba.underlying4 f1
  obtain ⟨b, e2, -⟩ := DataW.trod_bool Yba.underlying4 f2
  obtain ⟨c, e3, -⟩ := DataW.trod_bool Yba.underlying4 f3
  simp at e0 e1 e2 e3
  subst e0 e1 e2 e3
  exact ⟨⟨s, a, b, c⟩, rfl, hs⟩

/-- The argument opened. -/
theorem open_ents {H : Type} {enc : TypeId × Value → H} {w : World} {fuel : Nat} {a : Option Addr} {len cap : Nat} {x : DataW H × List MemPlace} (h : DataW.trod enc Yba.prog w 0 (fun _ => true) true fuel 22 [.slice a len cap] = some x) :
    ∃ S A B C, IsEnts w a len S A B C ∧ ∀ i, i < len → (S i).size ≤ maxLen := by
  rcases open_slice Yba.underlying22 h with ⟨hcs, -⟩ | ⟨ad, l, c, m, n, D, Pl, hcs, -, hl, -, hm, -, hx⟩
  · simp at hcs
    obtain ⟨rfl, rfl, rfl⟩ := hcs
    exact ⟨fun _ => ⟨#[]⟩, fun _ => false, fun _ => false, fun _ => false, .inl rfl, fun i hi => by omega⟩
  · simp at hcs
    obtain ⟨rfl, rfl, rfl⟩ := hcs
    simp only [if_true] at hm
    subst hm
    rw [cells38] at hx
    by_cases h0 : len = 0
    · subst h0
      exact ⟨fun _ => ⟨#[]⟩, fun _ => false, fun _ => false, fun _ => false, .inl rfl, fun i hi => by omega⟩
    have key : ∀ i, i < len → ∃ e : Entry, (∀ j v, ([.string e.s, .bool e.a, .bool e.b, .bool e.c] : List Value)[j]? = some v → w.cell? ((ad.add (i * 4)).add j) = some v) ∧ e.s.size ≤ maxLen := by
      intro i hi
      obtain ⟨cs', h1, h2⟩ := hx i (by omega)
      obtain ⟨e, rfl, hs⟩ := open_entry h2
      obtain ⟨-, -, h3⟩ := World.cells?_some h1
      refine ⟨e, fun j v hj => ?_, hs⟩
      have hj4 : j < 4 := by
        have := (List.getElem?_eq_some_iff.1 hj).1
        simpa using this
      rw [h3 j hj4, hj]
    obtain ⟨f, hf⟩ := @choose_lt Entry ⟨⟨⟨#[]⟩, false, false, false⟩⟩ len _ key
    obtain ⟨b, off, spot⟩ := ad
    have hspot : spot = none := by
      have := World.cell?_spot ((hf 0 (by omega)).1 0 _ rfl)
      simpa [Addr.add] using this
    subst hspot
    have hc : ∀ i j v, i < len → ([.string (f i).s, .bool (f i).a, .bool (f i).b, .bool (f i).c] : List Value)[j]? = some v → w.cell? ⟨b, off + i * 4 + j, none⟩ = some v := fun i j v hi hj => by
      have := (hf i hi).1 j v hj
      rw [add_plain, add_plain] at this
      exact this
    refine ⟨fun i => (f i).s, fun i => (f i).a, fun i => (f i).b, fun i => (f i).c, .inr ⟨b, off, rfl, ?_, ?_, ?_, ?_, ?_⟩, fun i hi => (hf i hi).2⟩
    · exact World.block_lt_of_cell? _ _ (hc 0 0 _ (by omega) rfl)
    · exact fun i hi => hc i 0 _ hi rfl
    · exact fun i hi => hc i 1 _ hi rfl
    · exact fun i hi => hc i 2 _ hi rfl
    · exact fun i hi => hc i 3 _ hi rfl

theorem law_any (a : Option Addr) (len cap : Nat) (S : Nat → ByteArray) (A B C : Nat → Bool) (w : World) (HE : IsEnts w a len S A B C) (hs : ∀ i, i < len → (S i).size ≤ maxLen) :
    Calls Yba.prog 3 #[.slice a len cap] w fun e w' => e = .returned (.bool true) ∧ Below w.heap.size w w' := by
  by_cases h : 256 < len
  · exact law_long a len cap w h
  · obtain ⟨R, hR⟩ := exists_reader
    exact law_walk R hR a len cap S A B C w (by omega) HE hs

/-! ### THE ROW's STEP: WRITTEN OUT: LEAVE IT -/
set_option maxRecDepth 100000 in
theorem lifted (os : Os) (started : os.Started) (H : Type) (enc : TypeId × Value → H) :
    ReturnsInHanded {} Yba.checked os 3 .any (Rows.lawS2050AAwaitSpec.pre6 enc Yba.prog Yba.f3 Rows.lawS2050AAwaitRow.domain false) (Rows.lawS2050AAwaitSpec.post enc Yba.prog Yba.f3 false true false false) := by
  refine returnsInHanded_of_change (C := Yba.checked) own started (by kernel_rfl) Yba.func3
    (ChangeSpec.witness6 (enc := enc) (C := Yba.checked) false ⟨#[], #[.slice none 0 0], []⟩ 8 (by kernel_rfl) (by kernel_rfl) (by kernel_rfl) (by kernel_rfl)) ?_
  intro W base args ds gs before hval0 hW hcnd _
  have hval : ∀ (j : Nat) t v, Yba.f3.params[j]? = some t → args[j]? = some v → Value.okWide Yba.prog W .any base t v := hval0
  have hW' := hW
  obtain ⟨p, q, hA0, hV, rfl, hfz, hnd⟩ := hW
  have hA : DataW.TrodAll enc Yba.prog W 0 (fun _ => true) true Yba.f3.params.toList args.toList ds p := hA0
  rw [Yba.params3] at hA hval
  obtain ⟨v0, vs0, d0, ds0, p0, q0, hargs, rfl, rfl, h0, r0⟩ := trodAll_cons hA
  obtain ⟨rfl, rfl, rfl⟩ := trodAll_nil r0
  obtain rfl : args = #[v0] := by cases args; simp_all
  obtain ⟨rfl, rfl⟩ := trodVars_none hV
  obtain ⟨a0, len0, cap0, rfl⟩ := okWide_slice Yba.underlying22 (hval 0 22 v0 rfl rfl)
  have k0 := h0
  have lt0 : ∀ x ∈ p0, x.block < W.heap.size := by obtain ⟨m, hm⟩ := k0; exact DataW.trod_lt m _ _ _ hm
  obtain ⟨S, A, B, C, w0, hs⟩ : ∃ S A B C, IsEnts W a0 len0 S A B C ∧ ∀ i, i < len0 → (S i).size ≤ maxLen := by
    obtain ⟨fuel, hf⟩ := h0
    exact open_ents (by simpa [Value.cells] using hf)
  clear hA0 hval0
  refine (law_any a0 len0 cap0 S A B C W w0 hs).mono fun e W' ⟨he, bel⟩ => ?_
  subst he
  exact ⟨_, rfl, _, _, _, [], _, [], hW', trodAll_mk1 (shut_bool Yba.underlying4 _), (trodAll_cons_mk (Below.trod laidOut (by kernel_rfl) (of_decide_eq_true (by kernel_rfl)) k0 bel lt0) trodAll_mk0), rfl, bel.frame _, fun h => by cases h⟩

theorem over : Rows.lawS2050AAwaitRow.holds Yba.pinned (OpenSpec.ofChange Rows.lawS2050AAwaitSpec) :=
  OpenClaim.holds_of_wide 3 Yba.f3 rfl rfl rfl rfl rfl rfl rfl ⟨rfl, rfl, rfl, rfl, rfl⟩ rfl rfl rfl rfl rfl (by kernel_rfl) Yba.func3 (by kernel_rfl)
    (of_decide_eq_true (by kernel_rfl)) (by unfold Func.isWrapper; first | (rw [if_pos (by decide +kernel)]; kernel_rfl) | (rw [if_neg (by decide +kernel)]; exact ⟨rfl, rfl⟩))
    (fun os started H enc _ => lifted os started H enc)

/-- ████ THE STATEMENT ████ -/
theorem proved : Rows.LawS2050AAwaitSaid := over
#print axioms proved
end Go.Proofs.Ybulkapkw.lawS2050AAwait
