/-
  LawS2053AModel: the walk. The loop carries the tally's five cells and the model's two streaks.
-/
import Derived.Test.YbulkapmmCount
import Derived.LoopTactic
namespace Go.Proofs.Ybulkapmm
open Go.RowKit

/-- What the walk is told of a slice of bools that came in. -/
def IsBools (w : World) (a : Option Addr) (len cap : Nat) (B : Nat → Bool) : Prop :=
  len = 0 ∨ ∃ b off, a = some ⟨b, off, none⟩ ∧ len ≤ cap ∧ b < w.heap.size ∧ ∀ i, i < len → w.cell? ⟨b, off + i, none⟩ = some (.bool (B i))

/-- The tally's counter against the model's streak. -/
def cnt (c r : Int) : Int := if c = 0 then 0 else if r < c then r else c

theorem hidden {p : Prop} (h : p) : Hid p := h
theorem cnt_zero (r : Int) : cnt 0 r = 0 := rfl
theorem cnt_no {c r : Int} (h0 : 0 ≤ c) (h : c + 1 < r) : cnt c r = c ∧ cnt (c + 1) r = c + 1 := by
  unfold cnt; constructor
  · split <;> (try split) <;> omega
  · rw [if_neg (by omega), if_neg (by omega)]
theorem cnt_yes {c r : Int} (h0 : 0 ≤ c) (h : r ≤ c + 1) : r ≤ cnt c r + 1 ∧ cnt (c + 1) r = r := by
  unfold cnt; constructor
  · split <;> (try split) <;> omega
  · rw [if_neg (by omega)]; split <;> omega
theorem cnt_bd {c r : Int} (h0 : 0 ≤ c) (h1 : c ≤ 1024) (r0 : -128 ≤ r) : -200 ≤ cnt c r ∧ cnt c r ≤ 2000 := by
  unfold cnt; split <;> (try split) <;> omega

theorem amodel_long (a0 a1 a2 : Int) (a3 : Option Addr) (len cap : Nat) (w : World) (hlen : 1024 < len) :
    Calls Yba.prog 3 #[.int .i8 a0, .int .i8 a1, .int .u8 a2, .slice a3 len cap] w fun e w' => e = .returned (.bool true) ∧ Below w.heap.size w w' := by
  go_enter Yba.func3, Yba.ntmps3
  go_wp2
  go_ret
  exact ⟨rfl, Below.refl _ _⟩

set_option maxRecDepth 100000 in
set_option maxHeartbeats 1000000 in
theorem amodel_walk (a0 a1 a2 : Int) (a3 : Option Addr) (len cap : Nat) (B : Nat → Bool) (w : World) (w00 : -128 ≤ a0) (w01 : a0 ≤ 127) (w10 : -128 ≤ a1) (w11 : a1 ≤ 127) (w20 : 0 ≤ a2) (w21 : a2 ≤ 255)
    (hlen : len ≤ 1024) (hrow : Hid (IsBools w a3 len cap B)) :
    Calls Yba.prog 3 #[.int .i8 a0, .int .i8 a1, .int .u8 a2, .slice a3 len cap] w fun e w' => e = .returned (.bool true) ∧ Below w.heap.size w w' := by
  go_enter Yba.func3, Yba.ntmps3
  go_wp2
  go_loopw [11, 13, 14, 38] (fun h cp cf i wr => ∃ (k : Nat) (hh c d : Int), k ≤ len ∧ i = .int .i64 k ∧ h = .int .i64 hh ∧ cp = .int .i64 c ∧ cf = .int .i64 d ∧ 0 ≤ c ∧ c ≤ k ∧ 0 ≤ d ∧ d ≤ k ∧
      Tal w.heap.size a1 a0 hh (cnt c a0) (cnt d a1) wr ∧ Below w.heap.size w wr) (fun _ _ _ i _ => len - (intOf i).toNat)
  case atStart =>
    refine ⟨0, _, 0, 0, Nat.zero_le _, rfl, rfl, rfl, rfl, by omega, by omega, by omega, by omega, ?_, (Below.refl _ _).alloc (Nat.le_refl _) _⟩
    rw [cnt_zero, cnt_zero]
    exact ⟨by go_simp, by go_simp, by go_simp, by go_simp, by go_simp, by go_simp, by go_simp, by go_simp⟩
  case round =>
    obtain ⟨k, hh, c, d, hk, rfl, rfl, rfl, rfl, hc0, hck, hd0, hdk, HT, hbel⟩ := hrel
    by_cases hlt : k < len
    · obtain ⟨b, off, rfl, -, hb, hcell⟩ : ∃ b off, a3 = some ⟨b, off, none⟩ ∧ len ≤ cap ∧ b < w.heap.size ∧ ∀ i, i < len → w.cell? ⟨b, off + i, none⟩ = some (.bool (B i)) := by
        rcases hrow.out with h | h
        · omega
        · exact h
      have hcr : wr.cell? ⟨b, off + k, none⟩ = some (.bool (B k)) := (hbel.cell hb).trans (hcell k hlt)
      have bc := cnt_bd (r := a0) hc0 (by omega) w00
      have bd := cnt_bd (r := a1) hd0 (by omega) w10
      obtain ⟨bc0, bc1⟩ := bc
      obtain ⟨bd0, bd1⟩ := bd
      cases hB : B k
      · rw [hB] at hcr
        by_cases hy : a1 ≤ d + 1
        · have hyes := cnt_yes hd0 hy
          have HK := hidden (count_fail_yes w.heap.size a1 a0 hh (cnt c a0) (cnt d a1) wr HT bd0 bd1 hyes.1)
          have HN := hidden hyes
          clear HT bd0 bd1 bc0 bc1 hB hyes
          by_cases hs : a1 < d + 1
          · clear hy
            go_wp2_with (go_at_call 5; refine (Hid.out HK).mono ?_; rintro e w' ⟨rfl, ⟨e0, e1, e2, e3, e4, e5, e6, e7⟩, hb2⟩)
            go_roundw
            case rel => exact ⟨k + 1, 2, 0, d + 1, by omega, by go_num, rfl, rfl, rfl, by omega, by omega, by omega, by omega, by rw [HN.out.2, cnt_zero]; exact ⟨e0, e1, e2, e3, e4, e5, e6, e7⟩, hbel.trans hb2⟩
            case measure => simp [intOf]; omega
          · have hne : (a1 != d + 1) = false := by simp; omega
            go_wp2_with (go_at_call 5; refine (Hid.out HK).mono ?_; rintro e w' ⟨rfl, ⟨e0, e1, e2, e3, e4, e5, e6, e7⟩, hb2⟩)
            go_roundw
            case rel => exact ⟨k + 1, 2, 0, d + 1, by omega, by go_num, rfl, rfl, rfl, by omega, by omega, by omega, by omega, by rw [HN.out.2, cnt_zero]; exact ⟨e0, e1, e2, e3, e4, e5, e6, e7⟩, hbel.trans hb2⟩
            case measure => simp [intOf]; omega
        · have hno := cnt_no hd0 (show d + 1 < a1 by omega)
          have K := count_fail_no w.heap.size a1 a0 hh (cnt c a0) (cnt d a1) wr HT bd0 bd1 (by rw [hno.1]; omega)
          rw [hno.1] at K
          have HK := hidden K
          have HN := hidden hno
          clear K HT bd0 bd1 bc0 bc1 hB hno
          go_wp2_with (go_at_call 5; refine (Hid.out HK).mono ?_; rintro e w' ⟨rfl, ⟨e0, e1, e2, e3, e4, e5, e6, e7⟩, hb2⟩)
          go_roundw
          case rel => exact ⟨k + 1, hh, 0, d + 1, by omega, by go_num, rfl, rfl, rfl, by omega, by omega, by omega, by omega, by rw [HN.out.2, cnt_zero]; exact ⟨e0, e1, e2, e3, e4, e5, e6, e7⟩, hbel.trans hb2⟩
          case measure => simp [intOf]; omega
      · rw [hB] at hcr
        by_cases hy : a0 ≤ c + 1
        · have hyes := cnt_yes hc0 hy
          have HK := hidden (count_pass_yes w.heap.size a1 a0 hh (cnt c a0) (cnt d a1) wr HT bc0 bc1 hyes.1)
          have HN := hidden hyes
          clear HT bd0 bd1 bc0 bc1 hB hyes
          by_cases hs : a0 < c + 1
          · clear hy
            go_wp2_with (go_at_call 5; refine (Hid.out HK).mono ?_; rintro e w' ⟨rfl, ⟨e0, e1, e2, e3, e4, e5, e6, e7⟩, hb2⟩)
            go_roundw
            case rel => exact ⟨k + 1, 0, c + 1, 0, by omega, by go_num, rfl, rfl, rfl, by omega, by omega, by omega, by omega, by rw [HN.out.2, cnt_zero]; exact ⟨e0, e1, e2, e3, e4, e5, e6, e7⟩, hbel.trans hb2⟩
            case measure => simp [intOf]; omega
          · have hne : (a0 != c + 1) = false := by simp; omega
            go_wp2_with (go_at_call 5; refine (Hid.out HK).mono ?_; rintro e w' ⟨rfl, ⟨e0, e1, e2, e3, e4, e5, e6, e7⟩, hb2⟩)
            go_roundw
            case rel => exact ⟨k + 1, 0, c + 1, 0, by omega, by go_num, rfl, rfl, rfl, by omega, by omega, by omega, by omega, by rw [HN.out.2, cnt_zero]; exact ⟨e0, e1, e2, e3, e4, e5, e6, e7⟩, hbel.trans hb2⟩
            case measure => simp [intOf]; omega
        · have hno := cnt_no hc0 (show c + 1 < a0 by omega)
          have K := count_pass_no w.heap.size a1 a0 hh (cnt c a0) (cnt d a1) wr HT bc0 bc1 (by rw [hno.1]; omega)
          rw [hno.1] at K
          have HK := hidden K
          have HN := hidden hno
          clear K HT bd0 bd1 bc0 bc1 hB hno
          go_wp2_with (go_at_call 5; refine (Hid.out HK).mono ?_; rintro e w' ⟨rfl, ⟨e0, e1, e2, e3, e4, e5, e6, e7⟩, hb2⟩)
          go_roundw
          case rel => exact ⟨k + 1, hh, c + 1, 0, by omega, by go_num, rfl, rfl, rfl, by omega, by omega, by omega, by omega, by rw [HN.out.2, cnt_zero]; exact ⟨e0, e1, e2, e3, e4, e5, e6, e7⟩, hbel.trans hb2⟩
          case measure => simp [intOf]; omega
    · go_wp2
      go_ret
      exact ⟨rfl, hbel⟩
end Go.Proofs.Ybulkapmm
