/-
  LawS2053BSortedHosts: the row's step (the frame is the kit's skeleton tool's, turned to a string, a slice of strings and a slice of numbers), and the statement.
-/
import Derived.Test.YbulkapmmRows
import Derived.Test.YbulkapmmSortedWalk
import Derived.SliceStrings
import Derived.WalkKit
import Derived.ProofKit
import Derived.OpenShut
import Derived.ShutString
import Derived.ChangeOld
import Derived.Below
namespace Go.Proofs.Ybulkapmm.lawS2053BSortedHosts
open Go.ChangeShapes Go.WideShapes Go.ChangeAt Go.RowKit
open Go.ChangeMaps (open_string shut_string)
set_option linter.unusedVariables false

theorem own : ownKnob Yba.prog.godebug = none := by kernel_rfl
theorem laidOut : laidOutB Yba.prog = true := by kernel_rfl

theorem isStrs_of {w : World} {x : Addr} {len : Nat} {S : Nat → ByteArray} (hcell : ∀ i, i < len → w.cell? (x.add i) = some (.string (S i))) : IsStrs w (some x) len S := by
  by_cases h0 : len = 0
  · exact .inl h0
  · have h1 := hcell 0 (by omega)
    obtain ⟨b, off, spot⟩ := x
    have hspot : spot = none := by simpa [Addr.add] using World.cell?_spot h1
    subst hspot
    have hb : b < w.heap.size := World.block_lt_of_cell? _ _ h1
    exact .inr ⟨b, off, rfl, hb, fun i hi => by rw [← add_plain]; exact hcell i hi⟩
theorem isNums_of {w : World} {x : Addr} {len : Nat} {V : Nat → Int} (hcell : ∀ i, i < len → w.cell? (x.add i) = some (.int .i64 (V i))) : IsNums w (some x) len V := by
  by_cases h0 : len = 0
  · exact .inl h0
  · have h1 := hcell 0 (by omega)
    obtain ⟨b, off, spot⟩ := x
    have hspot : spot = none := by simpa [Addr.add] using World.cell?_spot h1
    subst hspot
    have hb : b < w.heap.size := World.block_lt_of_cell? _ _ h1
    exact .inr ⟨b, off, rfl, hb, fun i hi => by rw [← add_plain]; exact hcell i hi⟩

/-- What is known of the slice of strings: it is nil; or it has an address, its cells and their lengths. -/
def Keys (w : World) (a : Option Addr) (len cap : Nat) : Prop :=
  (a = none ∧ len = 0 ∧ cap = 0) ∨ ∃ x S, a = some x ∧ IsStrs w (some x) len S ∧ ∀ i, i < len → (S i).size ≤ maxLen

theorem any (nm : ByteArray) (a : Option Addr) (len cap : Nat) (a2 : Option Addr) (len2 cap2 : Nat) (V : Nat → Int) (w : World) (hk : Keys w a len cap) (hv : IsNums w a2 len2 V) :
    Calls Yba.prog 4 #[.string nm, .slice a len cap, .slice a2 len2 cap2] w fun e w' => e = .returned (.bool true) ∧ Below w.heap.size w w' := by
  obtain ⟨R, hR⟩ := exists_reader
  by_cases h : 1024 < len
  · exact sorted_long nm a len cap a2 len2 cap2 w h
  · rcases hk with ⟨rfl, rfl, rfl⟩ | ⟨x, S, rfl, hs, hsz⟩
    · exact sorted_nil nm a2 len2 cap2 w
    · exact sorted_walk R hR nm x len cap a2 len2 cap2 S V w (by omega) hs hv hsz

/-! ### THE ROW's STEP: WRITTEN OUT: LEAVE IT -/
set_option maxRecDepth 100000 in
theorem lifted (os : Os) (started : os.Started) (H : Type) (enc : TypeId × Value → H) :
    ReturnsInHanded {} Yba.checked os 4 .any (Rows.lawS2053BSortedHostsSpec.pre6 enc Yba.prog Yba.f4 Rows.lawS2053BSortedHostsRow.domain false) (Rows.lawS2053BSortedHostsSpec.post enc Yba.prog Yba.f4 false true false false) := by
  refine returnsInHanded_of_change (C := Yba.checked) own started (by kernel_rfl) Yba.func4
    (ChangeSpec.witness6 (enc := enc) (C := Yba.checked) false ⟨#[], #[.string ⟨#[]⟩, .slice none 0 0, .slice none 0 0], []⟩ 8 (by kernel_rfl) (by kernel_rfl) (by kernel_rfl) (by kernel_rfl)) ?_
  intro W base args ds gs before hval0 hW hcnd _
  have hval : ∀ (j : Nat) t v, Yba.f4.params[j]? = some t → args[j]? = some v → Value.okWide Yba.prog W .any base t v := hval0
  have hW' := hW
  obtain ⟨p, q, hA0, hV, rfl, hfz, hnd⟩ := hW
  have hA : DataW.TrodAll enc Yba.prog W 0 (fun _ => true) true Yba.f4.params.toList args.toList ds p := hA0
  rw [Yba.params4] at hA hval
  obtain ⟨v0, vs0, d0, ds0, p0, q0, hargs, rfl, rfl, h0, r0⟩ := trodAll_cons hA
  obtain ⟨v1, vs1, d1, ds1, p1, q1, rfl, rfl, rfl, h1, r1⟩ := trodAll_cons r0
  obtain ⟨v2, vs2, d2, ds2, p2, q2, rfl, rfl, rfl, h2, r2⟩ := trodAll_cons r1
  obtain ⟨rfl, rfl, rfl⟩ := trodAll_nil r2
  obtain rfl : args = #[v0, v1, v2] := by cases args; simp_all
  obtain ⟨rfl, rfl⟩ := trodVars_none hV
  have k0 := h0
  have lt0 : ∀ x ∈ p0, x.block < W.heap.size := by obtain ⟨m, hm⟩ := k0; exact DataW.trod_lt m _ _ _ hm
  obtain ⟨s0, rfl, rfl, rfl, w0⟩ := open_string Yba.underlying9 (hval 0 9 v0 rfl rfl) h0
  obtain ⟨a1, len1, cap1, rfl⟩ := okWide_slice Yba.underlying30 (hval 1 30 v1 rfl rfl)
  have k1 := h1
  have lt1 : ∀ x ∈ p1, x.block < W.heap.size := by obtain ⟨m, hm⟩ := k1; exact DataW.trod_lt m _ _ _ hm
  have w1 : Keys W a1 len1 cap1 := by
    obtain ⟨fuel, hf⟩ := h1
    rcases open_strings Yba.underlying30 Yba.underlying9 (by kernel_rfl) hf with ⟨hcs, _⟩ | ⟨x, l, c, ss, hcs, _, hl, hm, hz, _, hcell, hsz⟩
    · simp [Value.cells] at hcs
      obtain ⟨rfl, rfl, rfl⟩ := hcs
      exact .inl ⟨rfl, rfl, rfl⟩
    · simp [Value.cells] at hcs
      obtain ⟨rfl, rfl, rfl⟩ := hcs
      have hle : len1 ≤ ss.length := by rw [hz]; simpa using hl
      refine .inr ⟨x, fun i => ss.getD i ByteArray.empty, rfl, isStrs_of (fun i hi => hcell i (by omega)), fun i hi => hsz _ ?_⟩
      show ss.getD i ByteArray.empty ∈ ss
      rw [List.getD_eq_getElem?_getD, List.getElem?_eq_getElem (by omega)]
      exact List.getElem_mem _
  obtain ⟨a2, len2, cap2, rfl⟩ := okWide_slice Yba.underlying31 (hval 2 31 v2 rfl rfl)
  have k2 := h2
  have lt2 : ∀ x ∈ p2, x.block < W.heap.size := by obtain ⟨m, hm⟩ := k2; exact DataW.trod_lt m _ _ _ hm
  obtain ⟨V2, w2⟩ : ∃ V, IsNums W a2 len2 V := by
    obtain ⟨fuel, hf⟩ := h2
    rcases open_ints Yba.underlying31 Yba.underlying2 (by kernel_rfl) hf with ⟨hcs, _⟩ | ⟨x, l, c, zs, hcs, _, hl, hm, hz, _, hcell, _⟩
    · simp [Value.cells] at hcs
      obtain ⟨rfl, rfl, rfl⟩ := hcs
      exact ⟨fun _ => 0, .inl rfl⟩
    · simp [Value.cells] at hcs
      obtain ⟨rfl, rfl, rfl⟩ := hcs
      have hle : len2 ≤ zs.length := by rw [hz]; simpa using hl
      exact ⟨fun i => zs.getD i 0, isNums_of (fun i hi => hcell i (by omega))⟩
  clear hA0 hval0
  refine (any s0 a1 len1 cap1 a2 len2 cap2 V2 W w1 w2).mono fun e W' ⟨he, bel⟩ => ?_
  subst he
  exact ⟨_, rfl, _, _, _, [], _, [], hW', trodAll_mk1 (shut_bool Yba.underlying4 _), (trodAll_cons_mk (Below.trod laidOut (by kernel_rfl) (of_decide_eq_true (by kernel_rfl)) k0 bel lt0) (trodAll_cons_mk (Below.trod laidOut (by kernel_rfl) (of_decide_eq_true (by kernel_rfl)) k1 bel lt1) (trodAll_cons_mk (Below.trod laidOut (by kernel_rfl) (of_decide_eq_true (by kernel_rfl)) k2 bel lt2) trodAll_mk0))), rfl, bel.frame _, fun h => by cases h⟩

theorem over : Rows.lawS2053BSortedHostsRow.holds Yba.pinned (OpenSpec.ofChange Rows.lawS2053BSortedHostsSpec) :=
  OpenClaim.holds_of_wide 4 Yba.f4 rfl rfl rfl rfl rfl rfl rfl ⟨rfl, rfl, rfl, rfl, rfl⟩ rfl rfl rfl rfl rfl (by kernel_rfl) Yba.func4 (by kernel_rfl)
    (of_decide_eq_true (by kernel_rfl)) (by unfold Func.isWrapper; first | (rw [if_pos (by decide +kernel)]; kernel_rfl) | (rw [if_neg (by decide +kernel)]; exact ⟨rfl, rfl⟩))
    (fun os started H enc _ => lifted os started H enc)

/-- ████ THE STATEMENT ████ -/
theorem proved : Rows.LawS2053BSortedHostsSaid := over
#print axioms proved
end Go.Proofs.Ybulkapmm.lawS2053BSortedHosts
