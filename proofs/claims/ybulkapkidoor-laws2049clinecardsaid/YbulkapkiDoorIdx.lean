/-
  strconv.Itoa and Atoi at this dump; ArrayIndex and the law's own helper: both answer by 'good' and 'val'.
-/
import Derived.Test.YbulkapkiDoorRows
import Derived.Test.YbulkapkiDoorShelf
import Derived.Test.YbulkapkiDoorPlain
import Derived.WalkKit
import Derived.WalkLawsBesides
import Derived.WalkSmall
import Derived.Below
import Derived.Lib.SmallJoins
import Derived.Lib.AtoiErrMem
import Derived.LoopTactic
namespace Go.Proofs.YbulkapkiDoor
open Go.RowKit Go.Shelf

/-- The table of powers of ten, by its name on the row's own list. -/
def tabName : String := (Rows.lawS2049CLineRow.named[0]?).getD ""
theorem gTab : Ybad.prog.globalNamed tabName = some 0 := by kernel_rfl
theorem gSyn : Ybad.prog.globalNamed "strconv.ErrSyntax" = some 1 := by kernel_rfl
theorem gRng : Ybad.prog.globalNamed "strconv.ErrRange" = some 2 := by kernel_rfl

/-- What the library reads of the package-level variables. -/
structure Env (w : World) : Prop where
  tab : Lib.TabIs Ybad.prog w tabName .u64 Lib.pow10Tab
  syn : ∃ tp p, w.var? Ybad.prog "strconv.ErrSyntax" = some #[.iface tp p]
  rng : ∃ tp p, w.var? Ybad.prog "strconv.ErrRange" = some #[.iface tp p]

theorem lt_of_var {P : Program} {w : World} {n : String} {cs : Array Value} {g : Nat} (hg : P.globalNamed n = some g) (h : w.var? P n = some cs) : g < w.heap.size := by
  unfold World.var? at h
  simp only [hg, Option.bind_some] at h
  apply Classical.byContradiction
  intro hn
  rw [Array.getElem?_eq_none (by omega)] at h
  cases h

theorem Env.below {w w' : World} (h : Env w) (hb : Below w.heap.size w w') : Env w' := by
  obtain ⟨t, ⟨tp, p, s⟩, ⟨tq, q, r⟩⟩ := h
  exact ⟨var?_below hb gTab (lt_of_var gTab t) t, ⟨tp, p, var?_below hb gSyn (lt_of_var gSyn s) s⟩, ⟨tq, q, var?_below hb gRng (lt_of_var gRng r) r⟩⟩

theorem grow_below (w : World) (k : Nat) (os : Array Obj) : Below w.heap.size w (Sort.grow (w.drewN k) os) :=
  ⟨rfl, rfl, rfl, by simp [World.drewN], fun i hi => by rw [Sort.heap_grow_old _ _ (by simpa [World.drewN] using hi)]; rfl⟩

/-- strconv.Itoa. -/
theorem itoa_c (n : Int) (h0 : -9223372036854775808 ≤ n) (h1 : n ≤ 9223372036854775807) (w : World) (hE : Env w) :
    Calls Ybad.prog 9 #[.int .i64 n] w fun e w' => e = .returned (.string ⟨(Lib.itoa n).toArray⟩) ∧ Below w.heap.size w w' :=
  (show Calls Ybad.prog 9 #[.int .i64 n] w fun e w' => e = .returned (.string ⟨(Lib.itoa n).toArray⟩) ∧ ∃ k os, w' = Sort.grow (w.drewN k) os from Any.strconv_Itoa Ybad.laysM171 n h0 h1 w hE.tab).mono
    (by rintro e w' ⟨rfl, k, os, rfl⟩; exact ⟨rfl, grow_below _ _ _⟩)

/-- strconv.Atoi at a numeral of an int. -/
theorem atoi_ok (s : ByteArray) (hs : s.size ≤ 1024) (v : Int) (h : Lib.atoiAll s.data.toList = .ok v) (w : World) :
    Calls Ybad.prog 14 #[.string s] w fun e w' => e = .returned (.tuple #[.int .i64 v, .nilIface]) ∧ Below w.heap.size w w' :=
  (show Calls Ybad.prog 14 #[.string s] w fun e w' => e = .returned (.tuple #[.int .i64 v, .nilIface]) ∧ (w' = w ∨ ∃ t, w' = Lib.bytesWorld w 5 t) from Any.strconv_Atoi_ok Ybad.laysC172 s (by omega) v h w).mono
    (by
      rintro e w' ⟨rfl, rfl | ⟨t, rfl⟩⟩
      · exact ⟨rfl, Below.refl _ _⟩
      · exact ⟨rfl, Lib.bytesWorld_below _ _ _⟩)

/-- strconv.Atoi at whatever else: an error that is not nil. -/
theorem atoi_bad (s : ByteArray) (hs : s.size ≤ 1024) (h : ∀ v, Lib.atoiAll s.data.toList ≠ .ok v) (w : World) (hE : Env w) :
    Calls Ybad.prog 14 #[.string s] w fun e w' => ∃ v N, e = .returned (.tuple #[.int .i64 v, .iface 63 (.pointer (some ⟨N, 0, none⟩))]) ∧ Below w.heap.size w w' := by
  obtain ⟨-, ⟨tp, p, hv⟩, ⟨tq, q, hr⟩⟩ := hE
  rcases hq : Lib.atoiAll s.data.toList with v | _ | _
  · exact absurd hq (h v)
  · exact (show Calls Ybad.prog 14 #[.string s] w fun e w' => ∃ N, e = .returned (.tuple #[.int .i64 0, .iface 63 (.pointer (some ⟨N, 0, none⟩))]) ∧ w.heap.size ≤ N ∧ w'.heap[N]? = some (.cells #[.string ⟨#[65, 116, 111, 105]⟩, .string s, .iface tp p] 71 (0, 0)) ∧ Below w.heap.size w w' from Any.strconv_Atoi_syntax_var Ybad.laysC172 s (by omega) hq tp p w hv).mono
      (by rintro e w' ⟨N, rfl, -, -, hb⟩; exact ⟨_, N, rfl, hb⟩)
  · exact (show Calls Ybad.prog 14 #[.string s] w fun e w' => ∃ N, e = .returned (.tuple #[.int .i64 (Lib.atoiSat s.data.toList), .iface 63 (.pointer (some ⟨N, 0, none⟩))]) ∧ w.heap.size ≤ N ∧ w'.heap[N]? = some (.cells #[.string ⟨#[65, 116, 111, 105]⟩, .string s, .iface tq q] 71 (0, 0)) ∧ Below w.heap.size w w' from Any.strconv_Atoi_range_var Ybad.laysC172 s (by omega) hq tq q w hr).mono
      (by rintro e w' ⟨N, rfl, -, -, hb⟩; exact ⟨_, N, rfl, hb⟩)

theorem bytes_eq (l : List UInt8) (s : ByteArray) (h : l = s.data.toList) : (⟨l.toArray⟩ : ByteArray) = s := by
  subst h; simp

/-- ArrayIndex at a good token. -/
theorem arr_good (s : ByteArray) (hs : s.size ≤ 1024) (hg : good s.data.toList = true) (w : World) (hE : Env w) :
    Calls Ybad.prog 12 #[.string s] w fun e w' => e = .returned (.tuple #[.int .i64 (val 0 s.data.toList : Nat), .bool true]) ∧ Below w.heap.size w w' := by
  obtain ⟨h1, h2, h3⟩ := good_atoi hg
  have e1 := bytes_eq _ _ h2
  have C1 := atoi_ok s hs _ h1
  have C2 := fun w hE => itoa_c ((val 0 s.data.toList : Nat) : Int) (by omega) (by omega) w hE
  rw [e1] at C2
  generalize hv : ((val 0 s.data.toList : Nat) : Int) = v at *
  have hv0 : 0 ≤ v := by omega
  clear h1 h2 h3 e1 hv hg
  go_enter Ybad.func12, Ybad.ntmps12
  go_wp2_with fail
  refine (C1 _).mono ?_
  rintro e w1 ⟨rfl, hb1⟩
  have hE1 := hE.below hb1
  go_wp2_with fail
  refine (C2 _ hE1).mono ?_
  rintro e w2 ⟨rfl, hb2⟩
  go_wp2
  go_ret2
  exact ⟨rfl, hb1.trans (hb2.mono hb1.size)⟩

/-- ArrayIndex at any other token. -/
theorem arr_bad (s : ByteArray) (hs : s.size ≤ 1024) (hg : good s.data.toList = false) (w : World) (hE : Env w) :
    Calls Ybad.prog 12 #[.string s] w fun e w' => e = .returned (.tuple #[.int .i64 0, .bool false]) ∧ Below w.heap.size w w' := by
  by_cases hex : ∃ v, Lib.atoiAll s.data.toList = .ok v
  · obtain ⟨v, hv⟩ := hex
    have hbd := Lib.atoiAll_bounds hv
    have C1 := atoi_ok s hs v hv
    by_cases h0 : v < 0
    · clear hv hg hbd
      go_enter Ybad.func12, Ybad.ntmps12
      go_wp2_with fail
      refine (C1 _).mono ?_
      rintro e w1 ⟨rfl, hb1⟩
      go_wp2
      go_ret2
      exact ⟨rfl, hb1⟩
    · have hne : Lib.itoa v ≠ s.data.toList := by
        intro he
        obtain ⟨u, rfl⟩ : ∃ u : Nat, v = (u : Int) := ⟨v.toNat, by omega⟩
        rw [Lib.itoa_nonneg] at he
        rw [← he, good_digits (by omega)] at hg
        cases hg
      have C2 := fun w hE => itoa_c v (by omega) (by omega) w hE
      have hq : ((⟨(Lib.itoa v).toArray⟩ : ByteArray).toList == s.toList) = false := by
        rw [Lib.toList_data, Lib.toList_data]
        simpa using hne
      generalize (⟨(Lib.itoa v).toArray⟩ : ByteArray) = u at *
      clear hv hg hbd hne
      go_enter Ybad.func12, Ybad.ntmps12
      go_wp2_with fail
      refine (C1 _).mono ?_
      rintro e w1 ⟨rfl, hb1⟩
      have hE1 := hE.below hb1
      go_wp2_with fail
      refine (C2 _ hE1).mono ?_
      rintro e w2 ⟨rfl, hb2⟩
      go_wp2
      go_ret2
      exact ⟨rfl, hb1.trans (hb2.mono hb1.size)⟩
  · have C1 := fun w hE => atoi_bad s hs (fun v hv => hex ⟨v, hv⟩) w hE
    clear hex hg
    go_enter Ybad.func12, Ybad.ntmps12
    go_wp2_with fail
    refine (C1 _ hE).mono ?_
    rintro e w1 ⟨v, N, rfl, hb1⟩
    go_wp2
    go_ret2
    exact ⟨rfl, hb1⟩

/-! ### The law's own helper -/
theorem dig_at {s : ByteArray} {k : Nat} (hk : k < s.size) (h : s.data.toList.all isDig = true) : (48 : Int) ≤ (s[k].toNat : Int) ∧ (s[k].toNat : Int) ≤ 57 := by
  have hm : s[k] ∈ s.data.toList := by
    have : s[k] = s.data.toList[k]'(by simpa using hk) := by simp; rfl
    rw [this]; exact List.getElem_mem _
  have := isDig_iff.1 (List.all_eq_true.1 h _ hm)
  omega
theorem take_snoc (s : ByteArray) (k : Nat) (h : k < s.size) : s.data.toList.take (k + 1) = s.data.toList.take k ++ [s[k]] := by
  rw [List.take_succ_eq_append_getElem (by simpa using h)]; rfl
theorem val_take_le (l : List UInt8) (k : Nat) : val 0 (l.take k) ≤ val 0 l := by
  have h := List.take_append_drop k l
  have := val_ge (l.drop k) (val 0 (l.take k))
  rw [← val_append, h] at this
  exact this

theorem headZero_no {s : ByteArray} (hs : 0 < s.size) (h4 : headZero s.data.toList = false) (h : (s[0].toNat : Int) = 48) (h1 : 1 < (s.size : Int)) : False := by
  have hl : s.data.toList.length = s.size := by simp
  have e0 : s.data.toList[0]? = some s[0] := by
    rw [List.getElem?_eq_getElem (by omega)]; simp; rfl
  generalize s[0] = c at *
  have hc : c = 48 := UInt8.toNat_inj.1 (by have : (48 : UInt8).toNat = 48 := rfl; omega)
  subst hc
  match hm : s.data.toList with
  | [] => rw [hm] at hl; simp at hl; omega
  | [_] => rw [hm] at hl; simp at hl; omega
  | c :: d :: r =>
    rw [hm] at e0 h4
    simp only [List.getElem?_cons_zero, Option.some.injEq] at e0
    subst e0
    simp [headZero] at h4

theorem great_key {s : ByteArray} (h5 : tooGreat s.data.toList = false) : (((s.size : Int) == 19) = false) ∨ (((s.size : Int) == 19) = true ∧ (Op.bytesLess s.toList [57, 50, 50, 51, 51, 55, 50, 48, 51, 54, 56, 53, 52, 55, 55, 53, 56, 48, 55] = true ∨
    (s.toList == [57, 50, 50, 51, 51, 55, 50, 48, 51, 54, 56, 53, 52, 55, 55, 53, 56, 48, 55]) = true)) := by
  have hl : s.data.toList.length = s.size := by simp
  by_cases h : s.size = 19
  · right
    refine ⟨beq_iff_eq.2 (by omega), ?_⟩
    rw [Lib.toList_data]
    simp only [tooGreat, hl, h, decide_true, Bool.true_and, Bool.not_eq_false', Bool.or_eq_true] at h5
    exact h5
  · left
    exact beq_eq_false_iff_ne.2 (by omega)

set_option maxHeartbeats 1000000 in
theorem zz_good (s : ByteArray) (hg : good s.data.toList = true) (w : World) :
    Calls Ybad.prog 5 #[.string s] w fun e w' => e = .returned (.tuple #[.int .i64 (val 0 s.data.toList : Nat), .bool true]) ∧ w' = w := by
  obtain ⟨h1, h2, h3, h4, h5⟩ := good_parts hg
  have hv := val_small h3 h2 h5
  have hlen : s.data.toList.length = s.size := by simp
  rw [hlen] at h2
  have hs0 : 0 < s.size := by
    rw [← hlen]; exact List.length_pos_iff.2 h1
  have hz : ((s.size : Int) == 0) = false := beq_eq_false_iff_ne.2 (by omega)
  have H3 : Hid (s.data.toList.all isDig = true) := h3
  have H4 : Hid (headZero s.data.toList = false) := h4
  have HV : Hid (val 0 s.data.toList < 9223372036854775808) := hv
  have key := great_key h5
  clear h1 h3 h4 h5 hg hv hlen
  rcases key with hb | ⟨hb, hA | hB⟩
  all_goals
    go_enter Ybad.func5, Ybad.ntmps5
    go_wp2
    go_loop [4] (fun i => ∃ k : Nat, k ≤ s.size ∧ i = .int .i64 k) (fun i => s.size - (intOf i).toNat)
    case atStart => exact ⟨0, Nat.zero_le _, rfl⟩
    case round =>
      obtain ⟨k, hk, rfl⟩ := hrel
      by_cases hlt : k < s.size
      · obtain ⟨d1, d2⟩ := dig_at hlt H3.out
        go_wp2
        go_round
        case rel => exact ⟨k + 1, by omega, by go_num⟩
        case measure => simp [intOf]; omega
      · go_wp2
        · exact absurd (show False from headZero_no hs0 H4.out (by assumption) (by assumption)) id
        all_goals
          go_loop [5, 6] (fun v i => ∃ (k : Nat) (V : Int), k ≤ s.size ∧ i = .int .i64 k ∧ v = .int .i64 V ∧ Hid (V = (val 0 (s.data.toList.take k) : Nat))) (fun _ i => s.size - (intOf i).toNat)
          case atStart => exact ⟨0, 0, Nat.zero_le _, rfl, rfl, rfl⟩
          case round =>
            obtain ⟨j, V, hj, rfl, rfl, hV⟩ := hrel
            by_cases hlt2 : j < s.size
            · obtain ⟨d1, d2⟩ := dig_at hlt2 H3.out
              have hstep : val 0 (s.data.toList.take (j + 1)) = val 0 (s.data.toList.take j) * 10 + (s[j].toNat - 48) := by rw [take_snoc s j hlt2, val_snoc]
              have hle := val_take_le s.data.toList (j + 1)
              have hV2 := hV.out
              have HV2 := HV.out
              have b0 : 0 ≤ V := by omega
              have b1 : V ≤ 922337203685477580 := by omega
              have b2 : V * 10 + ((s[j].toNat : Int) - 48) ≤ 9223372036854775807 := by omega
              have HN : Hid (V * 10 + ((s[j].toNat : Int) - 48) = (val 0 (s.data.toList.take (j + 1)) : Nat)) := by show _ = _; omega
              clear hstep hle hV2 HV2
              go_wp2
              go_round
              case rel => exact ⟨j + 1, _, by omega, by go_num, rfl, HN⟩
              case measure => simp [intOf]; omega
            · obtain rfl : V = (val 0 s.data.toList : Nat) := by rw [hV.out, List.take_of_length_le (by simp; omega)]
              go_wp2
              go_ret2
              exact ⟨rfl, rfl⟩

theorem headZero_yes {s : ByteArray} (h4 : headZero s.data.toList = true) : ∃ h : 0 < s.size, ((s[0].toNat : Int) == 48) = true ∧ 1 < (s.size : Int) := by
  have hl : s.data.toList.length = s.size := by simp
  match hm : s.data.toList with
  | [] => rw [hm] at h4; simp [headZero] at h4
  | [_] => rw [hm] at h4; simp [headZero] at h4
  | c :: d :: r =>
    rw [hm] at hl h4
    simp only [List.length_cons] at hl
    have h0 : 0 < s.size := by omega
    have e0 : s.data.toList[0]? = some s[0] := by
      rw [List.getElem?_eq_getElem (by simpa using h0)]; simp; rfl
    rw [hm] at e0
    simp only [List.getElem?_cons_zero, Option.some.injEq] at e0
    have h48 : c = 48 := by simpa [headZero] using h4
    refine ⟨h0, ?_, by omega⟩
    rw [← e0, h48]
    rfl

theorem great_yes {s : ByteArray} (h5 : tooGreat s.data.toList = true) : s.size = 19 ∧ Op.bytesLess s.toList [57, 50, 50, 51, 51, 55, 50, 48, 51, 54, 56, 53, 52, 55, 55, 53, 56, 48, 55] = false ∧
    (s.toList == [57, 50, 50, 51, 51, 55, 50, 48, 51, 54, 56, 53, 52, 55, 55, 53, 56, 48, 55]) = false := by
  have hl : s.data.toList.length = s.size := by simp
  simp only [tooGreat, Bool.and_eq_true, decide_eq_true_eq, hl, Bool.not_eq_true', Bool.or_eq_false_iff] at h5
  rw [Lib.toList_data]
  exact ⟨h5.1, h5.2⟩

theorem dig_no {c : UInt8} (h : isDig c = false) : (c.toNat : Int) < 48 ∨ 57 < (c.toNat : Int) := by
  have h2 : ¬ (48 ≤ c.toNat ∧ c.toNat ≤ 57) := fun hh => by rw [isDig_iff.2 hh] at h; cases h
  omega
theorem dig_yes {c : UInt8} (h : isDig c = true) : 48 ≤ (c.toNat : Int) ∧ (c.toNat : Int) ≤ 57 := by
  have := isDig_iff.1 h
  omega

theorem zz_size (s : ByteArray) (h : s.size = 0 ∨ 19 < s.size) (w : World) :
    Calls Ybad.prog 5 #[.string s] w fun e w' => e = .returned (.tuple #[.int .i64 0, .bool false]) ∧ w' = w := by
  rcases h with h | h
  · have hz : ((s.size : Int) == 0) = true := beq_iff_eq.2 (by omega)
    clear h
    go_enter Ybad.func5, Ybad.ntmps5
    go_wp2
    go_ret2
    exact ⟨rfl, rfl⟩
  · have hz : ((s.size : Int) == 0) = false := beq_eq_false_iff_ne.2 (by omega)
    go_enter Ybad.func5, Ybad.ntmps5
    go_wp2
    go_ret2
    exact ⟨rfl, rfl⟩

set_option maxHeartbeats 1000000 in
theorem zz_bad (s : ByteArray) (hg : good s.data.toList = false) (w : World) :
    Calls Ybad.prog 5 #[.string s] w fun e w' => e = .returned (.tuple #[.int .i64 0, .bool false]) ∧ w' = w := by
  by_cases hsz : s.size = 0 ∨ 19 < s.size
  · exact zz_size s hsz w
  have hlen : s.data.toList.length = s.size := by simp
  have hs0 : 0 < s.size := by omega
  have h2 : s.size ≤ 19 := by omega
  have hz : ((s.size : Int) == 0) = false := beq_eq_false_iff_ne.2 (by omega)
  have HG : Hid (s.data.toList.all isDig = true → headZero s.data.toList = true ∨ tooGreat s.data.toList = true) := by
    intro hd
    have hne : s.data.toList.isEmpty = false := by
      rw [List.isEmpty_eq_false_iff]; intro e; rw [e] at hlen; simp at hlen; omega
    simp only [good, hne, hlen, h2, hd, Bool.not_false, decide_true, Bool.true_and, Bool.and_eq_false_iff, Bool.not_eq_false'] at hg
    exact hg
  clear hsz hlen hg
  go_enter Ybad.func5, Ybad.ntmps5
  go_wp2
  go_loop [4] (fun i => ∃ k : Nat, k ≤ s.size ∧ i = .int .i64 k ∧ Hid ((s.data.toList.take k).all isDig = true)) (fun i => s.size - (intOf i).toNat)
  case atStart => exact ⟨0, Nat.zero_le _, rfl, rfl⟩
  case round =>
    obtain ⟨k, hk, rfl, HD⟩ := hrel
    by_cases hlt : k < s.size
    · cases hd : isDig s[k] with
      | true =>
        obtain ⟨d1, d2⟩ := dig_yes hd
        have HD2 : Hid ((s.data.toList.take (k + 1)).all isDig = true) := by
          show _ = _
          rw [take_snoc s k hlt, List.all_append, HD.out, List.all_cons, hd]
          rfl
        clear hd
        go_wp2
        go_round
        case rel => exact ⟨k + 1, by omega, by go_num, HD2⟩
        case measure => simp [intOf]; omega
      | false =>
        rcases dig_no hd with d1 | d1
        all_goals
          clear hd
          go_wp2
          go_ret2
          exact ⟨rfl, rfl⟩
    · have hall := HD.out
      rw [List.take_of_length_le (by simp; omega)] at hall
      rcases HG.out hall with h4 | h5
      · obtain ⟨_, e1, e2⟩ := headZero_yes h4
        clear h4 hall
        go_wp2
        go_ret2
        exact ⟨rfl, rfl⟩
      · obtain ⟨e1, e2, e3⟩ := great_yes h5
        have e4 : ((s.size : Int) == 19) = true := beq_iff_eq.2 (by omega)
        clear h5 hall e1
        go_wp2
        all_goals
          go_ret2
          exact ⟨rfl, rfl⟩
end Go.Proofs.YbulkapkiDoor
