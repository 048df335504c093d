/-
  LawS2049CLine: the row's step, the row, and the tied card.
-/
import Derived.Test.YbulkapkiDoorLaw
import Derived.Test.YbulkapkiDoorTie
import Derived.Test.YbulkapkiDoorCards
import Derived.ProofKit
import Derived.LaidMore
import Derived.OpenShut
import Derived.Stop.Joined
import Derived.Stop.LaidErr
import Derived.SevenTiedAt
namespace Go.Proofs.YbulkapkiDoor
open Go.ChangeShapes Go.WideShapes Go.ChangeAt Go.RowKit
open Go.ChangeMaps (open_string shut_string)

theorem own : ownKnob Ybad.prog.godebug = none := by kernel_rfl
theorem tTab : (Ybad.prog.globals[0]?).map (·.type) = some 54 := by kernel_rfl
theorem tSyn : (Ybad.prog.globals[1]?).map (·.type) = some 34 := by kernel_rfl
theorem tRng : (Ybad.prog.globals[2]?).map (·.type) = some 34 := by kernel_rfl
theorem cells45 : Ybad.prog.cellsOf 45 = 1 := by kernel_rfl
theorem cells54 : Ybad.prog.cellsOf 54 = 20 := by kernel_rfl
theorem cells80 : Ybad.prog.cellsOf 80 = 1 := by kernel_rfl
theorem cells9 : Ybad.prog.cellsOf 9 = 1 := by kernel_rfl
/-- The dynamic type's name as the row's list has it. -/
def errName : String := match Rows.laid_strconv_ErrRange (H := Unit) with
  | .iface nm _ => nm
  | _ => ""
/-- The one row of the type table that bears it. -/
theorem row78 (u : TypeId) (h : Ybad.prog.typeName? 3 u = some errName) : u = 78 :=
  typeName_ptr_named (nm := "errors.errorString") (by kernel_rfl) (by kernel_rfl) (by decide) u (h.trans (congrArg some (by decide)))

/-- The door's own heap meets the row's list. -/
theorem door_met (os : Os) (args : Array Value) : laidMetH Ybad.prog Rows.lawS2049CLineRow.laid ((World.doorLaid Ybad.prog 62 os).forCall (fun _ _ => 0) ⟨#[], args, []⟩).memory :=
  laidMetH_of_parts3 (fuel := 8) (laidMet_of_run' 8 (by kernel_rfl) (by kernel_rfl)) (by kernel_rfl) (by kernel_rfl)

/-- What the row's list gives the walks. -/
theorem env_of {W : World} (h : laidMetH Ybad.prog Rows.lawS2049CLineRow.laid W) : Env W := by
  rw [MakeChecks.laidMetH_plain _ _ _ (by kernel_rfl)] at h
  have h2 : laidMet Ybad.prog ((tabName, Lib.tabData .u64 Lib.pow10Tab) :: [("strconv.ErrRange", Rows.laid_strconv_ErrRange), ("strconv.ErrSyntax", Rows.laid_strconv_ErrSyntax)]) W := h.tail.tail
  have h3 : laidMet Ybad.prog (("strconv.ErrRange", Rows.laid_strconv_ErrRange) :: [("strconv.ErrSyntax", Rows.laid_strconv_ErrSyntax)]) W := h2.tail
  have h4 : laidMet Ybad.prog (("strconv.ErrSyntax", Rows.laid_strconv_ErrSyntax) :: []) W := h3.tail
  have hT := Lib.tabIs_of_head gTab tTab Ybad.underlying54 Ybad.underlying45 cells45 cells54 h2
  obtain ⟨a0, s0, hv0, -, -, -⟩ := laid_sentinel h3 gRng tRng Ybad.underlying34 row78 Ybad.underlying78 Ybad.underlying80 rfl rfl Ybad.underlying9 cells80 cells9
  obtain ⟨a1, s1, hv1, -, -, -⟩ := laid_sentinel h4 gSyn tSyn Ybad.underlying34 row78 Ybad.underlying78 Ybad.underlying80 rfl rfl Ybad.underlying9 cells80 cells9
  exact ⟨hT, ⟨_, _, hv1⟩, ⟨_, _, hv0⟩⟩

/-- THE WALKS TOGETHER. -/
theorem law_any (n idx : Int) (useKey : Bool) (tok : ByteArray) (depth : Int) (key : Bool) (w : World) (hE : Env w) (hx : -9223372036854775808 ≤ idx ∧ idx ≤ 9223372036854775807) (hd : 0 ≤ depth ∧ depth ≤ 255) :
    Calls Ybad.prog 3 #[.int .i64 n, .int .i64 idx, .bool useKey, .string tok, .int .u8 depth, .bool key] w fun e w' => e = .returned (.bool true) ∧ Below w.heap.size w w' := by
  by_cases hl : 1024 < tok.size
  · exact law_long n idx useKey tok depth key w hl
  by_cases h4 : depth % 4 = 0
  · exact law_root n idx useKey tok depth key w (by omega) hd.1 hd.2 h4
  cases useKey with
  | true => exact law_key n idx tok depth key w (by omega) hd.1 hd.2 (by omega) hE
  | false =>
    by_cases hi : 0 ≤ idx
    · exact law_idx n idx tok depth key w (by omega) hd.1 hd.2 (by omega) hE hi hx.2
    · exact law_neg n idx tok depth key w (by omega) hd.1 hd.2 (by omega) hE hx.1 (by omega)

set_option maxRecDepth 100000 in
theorem lifted (os : Os) (started : os.Started) (H : Type) (enc : TypeId × Value → H) :
    ReturnsInHanded {} Ybad.checked os 3 .any (fun w args => (Rows.lawS2049CLineSpec.pre enc Ybad.prog Ybad.f3 [] false w args ∧ laidMetH Ybad.prog Rows.lawS2049CLineRow.laid w) ∧ sizedMet enc Ybad.prog Ybad.f3 (OpenSpec.ofChange Rows.lawS2049CLineSpec) false w args)
      (Rows.lawS2049CLineSpec.post enc Ybad.prog Ybad.f3 false true false false) := by
  refine returnsInHanded_of_change_and (C := Ybad.checked) (X := fun w _ => laidMetH Ybad.prog Rows.lawS2049CLineRow.laid w) (fun _ _ _ hh h => h.of_heap hh) own started (by kernel_rfl) Ybad.func3
    (ChangeSpec.witness_shaped (enc := enc) (C := Ybad.checked) (os := os) (X := fun w _ => laidMetH Ybad.prog Rows.lawS2049CLineRow.laid w) false (World.doorLaid Ybad.prog 62 os) #[.int .i64 0, .int .i64 0, .bool false, .string ⟨#[]⟩, .int .u8 0, .bool false] 8 rfl (World.shaped_of_RefB (by kernel_rfl) (by kernel_rfl)) (by kernel_rfl) (by kernel_rfl) (by kernel_rfl) (door_met os _)) ?_
  intro W base args ds gs before hval0 hW _ _ hL _
  have hval : ∀ (j : Nat) t v, Ybad.f3.params[j]? = some t → args[j]? = some v → Value.okWide Ybad.prog W .any base t v := hval0
  have hW' := hW
  obtain ⟨p, q, hA0, hV, rfl, hfz, hnd⟩ := hW
  have hA : DataW.TrodAll enc Ybad.prog W 0 (fun _ => true) true Ybad.f3.params.toList args.toList ds p := hA0
  rw [Ybad.params3] at hA hval
  obtain ⟨v0, vs0, d0, ds0, p0, q0, hargs, rfl, rfl, h0, r0⟩ := trodAll_cons hA
  obtain ⟨v1, vs1, d1, ds1, p1, q1, rfl, rfl, rfl, h1, r1⟩ := trodAll_cons r0
  obtain ⟨v2, vs2, d2, ds2, p2, q2, rfl, rfl, rfl, h2, r2⟩ := trodAll_cons r1
  obtain ⟨v3, vs3, d3, ds3, p3, q3, rfl, rfl, rfl, h3, r3⟩ := trodAll_cons r2
  obtain ⟨v4, vs4, d4, ds4, p4, q4, rfl, rfl, rfl, h4, r4⟩ := trodAll_cons r3
  obtain ⟨v5, vs5, d5, ds5, p5, q5, rfl, rfl, rfl, h5, r5⟩ := trodAll_cons r4
  obtain ⟨rfl, rfl, rfl⟩ := trodAll_nil r5
  obtain rfl : args = #[v0, v1, v2, v3, v4, v5] := by cases args; simp_all
  obtain ⟨rfl, rfl⟩ := trodVars_none hV
  obtain ⟨a0, rfl, rfl, rfl, w0⟩ := open_int Ybad.underlying3 (hval 0 3 v0 rfl rfl) h0
  obtain ⟨a1, rfl, rfl, rfl, w1⟩ := open_int Ybad.underlying3 (hval 1 3 v1 rfl rfl) h1
  obtain ⟨a2, rfl, rfl, rfl⟩ := open_bool Ybad.underlying4 (hval 2 4 v2 rfl rfl) h2
  obtain ⟨a3, rfl, rfl, rfl, w3⟩ := open_string Ybad.underlying9 (hval 3 9 v3 rfl rfl) h3
  obtain ⟨a4, rfl, rfl, rfl, w4⟩ := open_int Ybad.underlying5 (hval 4 5 v4 rfl rfl) h4
  obtain ⟨a5, rfl, rfl, rfl⟩ := open_bool Ybad.underlying4 (hval 5 4 v5 rfl rfl) h5
  have hE := env_of hL
  clear hA0 hval0 hL
  simp only [List.append_nil] at hW'
  refine (law_any a0 a1 a2 a3 a4 a5 W hE (bounds_i64 w1) (bounds_u8 w4)).mono fun e W' ⟨he, hb⟩ => ?_
  subst he
  exact ⟨_, rfl, _, _, _, [], [], [], hW', trodAll_mk1 (shut_bool Ybad.underlying4 _),
    (trodAll_cons_mk (shut_int Ybad.underlying3 w0) (trodAll_cons_mk (shut_int Ybad.underlying3 w1) (trodAll_cons_mk (shut_bool Ybad.underlying4 _) (trodAll_cons_mk (shut_string Ybad.underlying9 w3) (trodAll_cons_mk (shut_int Ybad.underlying5 w4) (trodAll_cons_mk (shut_bool Ybad.underlying4 _) trodAll_mk0)))))),
    rfl, hb.frame _, fun h => by cases h⟩

theorem lawS2049CLine_holds : Rows.LawS2049CLineSaid :=
  OpenClaim.holds_of_wide 3 Ybad.f3 rfl rfl rfl rfl rfl rfl rfl ⟨rfl, rfl, rfl, rfl, rfl⟩ rfl rfl rfl rfl rfl (by kernel_rfl) Ybad.func3 (by kernel_rfl)
    (of_decide_eq_true (by kernel_rfl)) (by unfold Func.isWrapper; first | (rw [if_pos (by decide +kernel)]; kernel_rfl) | (rw [if_neg (by decide +kernel)]; exact ⟨rfl, rfl⟩))
    (fun os started H enc _ => lifted os started H enc)

/-- THE TIED CARD. -/
theorem lawS2049CLineCard_holds : Rows.LawS2049CLineCardSaid :=
  Claim7.holds_tied_plain_at .later [] [.data, .data, .data, .sentinel, .sentinel] true (true, "95edf88b7bf90a7a9d692d8f73dc05a46275b27f8a4a0dec70d20d9bf8681689") true
    lawS2049CLine_holds (fun _ h => by cases h) (by kernel_rfl) (fun _ h => by cases h) lawS2049CLine_row_tie rfl ⟨rfl, rfl⟩ (by kernel_rfl) rfl
    (fun f fn hf hfn => by
      obtain rfl : f = 3 := Option.some.inj ((show Ybad.prog.funcNamed Rows.lawS2049CLineRow.func = some 3 by kernel_rfl).symm.trans hf) |>.symm
      obtain rfl : fn = Ybad.f3 := (Option.some.inj (Ybad.func3.symm.trans hfn)).symm
      exact ⟨by kernel_rfl, fun j t ht => by
        rw [Ybad.params3] at ht
        have hm : t ∈ [3, 3, 4, 9, 5, 4] := by simpa using Array.mem_of_getElem? ht
        have hall : ([3, 3, 4, 9, 5, 4].all fun u => !Ybad.prog.wantsStandIn u) = true := by kernel_rfl
        exact (show Ybad.prog.wantsStandIn t = false by simpa using List.all_eq_true.1 hall t hm)⟩)
    (by kernel_rfl)
#print axioms lawS2049CLineCard_holds
end Go.Proofs.YbulkapkiDoor
