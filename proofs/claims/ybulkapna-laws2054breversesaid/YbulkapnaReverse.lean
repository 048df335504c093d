/-
  LawS2054BReverse: the walk of the law.
-/
import Derived.Test.YbulkapnaReady8
import Derived.Test.YbulkapnaInit
namespace Go.Proofs.Ybulkapna
open Go Go.RowKit

/-- What the law's first loop keeps: nothing has run. -/
structure IvV (len cap s i : Nat) (a : Option Addr) (rd : Nat → Bool) (lv : Value) (w0 w : World) : Prop where
  sq : Sq 8 w0.heap.size len cap (w0.heap.size + 5) (fun _ => none) a 0 rd 0 (enOf len s 0) 0 lv w0 w
  hi : ∀ k, i < k → k < len → rd k = true
  lo : ∀ k, k ≤ i → rd k = false

set_option maxRecDepth 100000 in
set_option maxHeartbeats 1000000 in
theorem reverse_long (a : Option Addr) (len cap : Nat) (w : World) (h : 256 < len) :
    Calls Yba.prog 4 #[.slice a len cap] w fun e w' => e = .returned (.bool true) ∧ Below w.heap.size w w' := by
  have b0 : (256 : Int) < (len : Int) := by omega
  go_enter Yba.func4, Yba.ntmps4
  go_wp2
  go_ret
  exact ⟨rfl, (Below.refl _ _).alloc (Nat.le_refl _) _⟩

theorem rev_step {rd : Nat → Bool} {i nx' : Nat} (hi : 1 ≤ i) (hlo : ∀ k, k ≤ i → rd k = false) (h : ∀ k, 0 ≤ k → k < nx' → setB rd i k = true) : nx' = 0 := by
  rcases Nat.eq_zero_or_pos nx' with e | e
  · exact e
  · have := h 0 (Nat.le_refl _) e
    unfold setB at this
    rw [if_neg (by omega), hlo 0 (by omega)] at this
    cases this
theorem rev_last {rd : Nat → Bool} {len s nx' : Nat} (hs : s ≤ len) (hhi : ∀ k, 0 < k → k < len → rd k = true) (hle : nx' ≤ s) (h : nx' = s ∨ setB rd 0 nx' = false) : nx' = s := by
  rcases h with e | e
  · exact e
  · unfold setB at e
    split at e
    · cases e
    · rcases Nat.lt_or_ge nx' s with h1 | h1
      · rw [hhi nx' (by omega) (by omega)] at e; cases e
      · omega

set_option maxRecDepth 100000 in
set_option maxHeartbeats 2000000 in
theorem reverse_walk (a : Option Addr) (len cap : Nat) (A : Nat → Bool) (s : Nat) (w : World) (hlen : len ≤ 256) (HA : Hid (IsBools w a len A)) (HT : Hid (Stop A len s)) :
    Calls Yba.prog 4 #[.slice a len cap] w fun e w' => e = .returned (.bool true) ∧ Below w.heap.size w w' := by
  obtain ⟨C, hmk, hC⟩ := make_flags len hlen
  have hmf : ∀ (fn : Fn) (first cap : Array Value) (w : World), (Instr.makeFunc fn first cap).run Yba.prog w = .ok (.func fn first cap) w := fun _ _ _ _ => rfl
  have hsq := Sq.init 8 len cap a C w hC
  have b0 : ¬ (256 : Int) < (len : Int) := by omega
  have HSq := hide hsq
  unfold Seq0 at HSq
  have hsl := HT.out.le
  clear hsq hC
  go_enter Yba.func4, Yba.ntmps4
  go_wp2_with (go_at_call 6; refine (new_c len 8 _ C hmk _).mono ?_; rintro e W1 ⟨rfl, hW1⟩
               simp only [World.size_alloc] at hW1
               have HS1 : Hid (Sq 8 w.heap.size len cap (w.heap.size + 5) (fun _ => none) a 0 (fun _ => false) 0 len 0 (.slice none 0 0) w W1) := by rw [hW1]; exact HSq
               have cn := HS1.out.cn
               clear hW1 HSq)
  clear cn hmk hmf
  by_cases h0 : len = 0
  · subst h0
    go_loopw [7] (fun i wr => i = .int .i64 (-1) ∧ wr = W1) (fun _ _ => 0)
    case atStart => exact ⟨rfl, rfl⟩
    case round =>
      obtain ⟨rfl, rfl⟩ := hrel
      have cn := HS1.out.cn
      have cl := HS1.out.cl
      go_wp2
      go_ret
      exact ⟨rfl, HS1.out.bel⟩
  · have HI0 : Hid (IvV len cap s (len - 1) a (fun _ => false) (.slice none 0 0) w W1) := ⟨by rw [HT.out.en0]; exact HS1.out, fun k h1 h2 => by omega, fun k _ => rfl⟩
    clear HS1
    go_loopw [7] (fun i wr => ∃ (m : Nat) (rd : Nat → Bool) (lv : Value), m < len ∧ i = .int .i64 m ∧ Hid (IvV len cap s m a rd lv w wr)) (fun i _ => (intOf i).toNat)
    case atStart => exact ⟨len - 1, _, _, by omega, by congr 1; omega, HI0⟩
    case round =>
      clear HI0
      obtain ⟨m, rd, lv, hm, rfl, HI⟩ := hrel
      obtain ⟨av, capv, rfl, hav⟩ := row_form HI.out.sq.row
      by_cases hm1 : 1 ≤ m
      · have b1 : (1 : Int) ≤ (m : Int) := by omega
        have CR := hide (ready8 len cap (w.heap.size + 5) _ a rd 0 s m _ A w wr hlen (Nat.zero_le _) HT hm HA HI.out.sq)
        go_wp2_with (go_at_call 7; refine CR.out.mono ?_; rintro e W3 ⟨rfl, nx', lv', h1, h2, h3, h4, hS⟩
                     obtain rfl : 0 = nx' := (rev_step hm1 HI.out.lo h3).symm
                     obtain ⟨av', capv', rfl, hav'⟩ := row_form hS.row
                     have HI2 : Hid (IvV len cap s (m - 1) a (setB rd m) (.slice av' 0 capv') w W3) := ⟨hS, fun k hk1 hk2 => by
                       unfold setB
                       split
                       · rfl
                       · exact HI.out.hi k (by omega) hk2, fun k hk => by
                       unfold setB
                       rw [if_neg (by omega)]
                       exact HI.out.lo k (by omega)⟩
                     have cl := hS.cl
                     clear hS h1 h2 h3 h4)
        clear CR HI
        go_roundw
        case rel => exact ⟨m - 1, _, _, by omega, by congr 1; omega, HI2⟩
        case measure => simp [intOf]; omega
      · obtain rfl : 0 = m := by omega
        have CR := hide (ready8 len cap (w.heap.size + 5) _ a rd 0 s 0 _ A w wr hlen (Nat.zero_le _) HT (by omega) HA HI.out.sq)
        have cn := HI.out.sq.cn
        have b2 : ((len : Int) == 0) = false := by simpa using h0
        go_wp2_with (go_at_call 7; refine CR.out.mono ?_; rintro e W3 ⟨rfl, nx', lv', h1, h2, h3, h4, hS⟩
                     obtain rfl : s = nx' := (rev_last HT.out.le HI.out.hi h2 h4).symm
                     obtain ⟨av', capv', rfl, hav'⟩ := row_form hS.row
                     have HS3 := hide hS
                     have cn3 := hS.cn
                     clear hS h1 h2 h3 h4 cn)
        clear CR HI cn3
        go_loopw [8, 9] (fun st i wr => ∃ k : Nat, k ≤ len ∧ i = .int .i64 k ∧ st = .int .i64 len ∧ Hid (∀ j, j < k → A j = true) ∧ wr = W3) (fun _ i _ => len - (intOf i).toNat)
        case atStart => exact ⟨0, Nat.zero_le _, rfl, rfl, fun j hj => by omega, rfl⟩
        case round =>
          obtain ⟨k, hk, rfl, rfl, HL, rfl⟩ := hrel
          have ca := HS3.out.ca
          have cn := HS3.out.cn
          have cl := HS3.out.cl
          by_cases hkl : k < len
          · obtain ⟨b, off, rfl, hb, hcell⟩ : ∃ b off, a = some ⟨b, off, none⟩ ∧ b < w.heap.size ∧ ∀ i, i < len → w.cell? ⟨b, off + i, none⟩ = some (.bool (A i)) := by
              rcases HA.out with h | h
              · omega
              · exact h
            have ck : wr.cell? ⟨b, off + k, none⟩ = some (.bool (A k)) := (HS3.out.bel.cell (p := ⟨b, off + k, none⟩) hb).trans (hcell k hkl)
            have b3 : (k : Int) < (len : Int) := by omega
            cases hA : A k
            · rw [hA] at ck
              obtain rfl : s = k + 1 := HT.out.at hkl HL.out hA
              clear hcell HL hA
              go_wp2
              go_loopw [10] (fun i wx => ∃ y : Nat, y ≤ (k + 1) ∧ i = .int .i64 y ∧ wx = wr) (fun i _ => (k + 1) - (intOf i).toNat)
              case atStart => exact ⟨0, Nat.zero_le _, rfl, rfl⟩
              case round =>
                obtain ⟨y, hy, rfl, rfl⟩ := hrel
                by_cases hyl : y < (k + 1)
                · obtain ⟨g, rfl⟩ := hav' (by omega)
                  have cy : wr.cell? ⟨g, y, none⟩ = some (.int .i64 (y : Nat)) := by
                    rw [HS3.out.row.cellAt y (by omega)]
                    exact nums_at hyl
                  have b9 : (y : Int) < (k : Int) + 1 := by omega
                  go_wp2
                  go_roundw
                  case rel => exact ⟨y + 1, by omega, by go_num, trivial⟩
                  case measure => simp [intOf]; omega
                · have b9 : ¬ (y : Int) < (k : Int) + 1 := by omega
                  go_wp2
                  go_ret
                  exact ⟨rfl, HS3.out.bel⟩
            · rw [hA] at ck
              have HN := hide (fun j (hj : j < k + 1) => show A j = true from (by
                by_cases e : j = k
                · subst e; exact hA
                · exact HL.out j (by omega)))
              clear hcell HL hA
              go_wp2
              go_roundw
              case rel => exact ⟨k + 1, by omega, by go_num, rfl, HN, trivial⟩
              case measure => simp [intOf]; omega
          · obtain rfl : len = k := by omega
            obtain rfl : s = len := HT.out.all HL.out
            clear HL
            go_wp2
            go_loopw [10] (fun i wx => ∃ y : Nat, y ≤ s ∧ i = .int .i64 y ∧ wx = wr) (fun i _ => s - (intOf i).toNat)
            case atStart => exact ⟨0, Nat.zero_le _, rfl, rfl⟩
            case round =>
              obtain ⟨y, hy, rfl, rfl⟩ := hrel
              by_cases hyl : y < s
              · obtain ⟨g, rfl⟩ := hav' (by omega)
                have cy : wr.cell? ⟨g, y, none⟩ = some (.int .i64 (y : Nat)) := by
                  rw [HS3.out.row.cellAt y (by omega)]
                  exact nums_at hyl
                have b9 : (y : Int) < (s : Int) := by omega
                go_wp2
                go_roundw
                case rel => exact ⟨y + 1, by omega, by go_num, trivial⟩
                case measure => simp [intOf]; omega
              · have b9 : ¬ (y : Int) < (s : Int) := by omega
                go_wp2
                go_ret
                exact ⟨rfl, HS3.out.bel⟩
end Go.Proofs.Ybulkapna
