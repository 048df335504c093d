/-
  (*tally).count: four contracts, one a way through. The tally lies in block b from its first cell on.
-/
import Derived.Test.YbulkapmmRows
import Derived.WalkKit
import Derived.WalkLawsBesides
import Derived.RegionTactic
import Derived.BigRegion
import Derived.ChangeAlike
import Derived.Below
namespace Go.Proofs.Ybulkapmm
open Go.RowKit

/-- A tally in block b: fall, rise, health, passed, failed. -/
structure Tal (b : Nat) (f r h p q : Int) (w : World) : Prop where
  c0 : w.cell? ⟨b, 0, none⟩ = some (.int .i64 f)
  c1 : w.cell? ⟨b, 1, none⟩ = some (.int .i64 r)
  c2 : w.cell? ⟨b, 2, none⟩ = some (.int .i64 h)
  c3 : w.cell? ⟨b, 3, none⟩ = some (.int .i64 p)
  c4 : w.cell? ⟨b, 4, none⟩ = some (.int .i64 q)
  z2 : w.frozen? ⟨b, 2, none⟩ = false
  z3 : w.frozen? ⟨b, 3, none⟩ = false
  z4 : w.frozen? ⟨b, 4, none⟩ = false

theorem bset {b off : Nat} {a w : World} {v : Value} (h : Below b a w) : Below b a (w.setCell ⟨b, off, none⟩ v) := h.setCell (Nat.le_refl _) _

set_option maxHeartbeats 400000 in
theorem count_pass_no (b : Nat) (f r h p q : Int) (w : World) (H : Tal b f r h p q w) (hp0 : -200 ≤ p) (hp1 : p ≤ 2000) (hlt : p + 1 < r) :
    Calls Yba.prog 5 #[.pointer (some ⟨b, 0, none⟩), .bool true] w fun e w' => e = .returned (.bool false) ∧ Tal b f r h (p + 1) 0 w' ∧ Below b w w' := by
  obtain ⟨c0, c1, c2, c3, c4, z2, z3, z4⟩ := H
  go_enter Yba.func5, Yba.ntmps5
  go_wp2
  go_region
  go_wp2
  go_region
  go_wp2
  go_ret
  exact ⟨by simp, ⟨by go_simp, by go_simp, by go_simp, by go_simp, by go_simp, by go_simp, by go_simp, by go_simp⟩, (bset (bset (Below.refl _ _))).drew.drew⟩

set_option maxHeartbeats 400000 in
theorem count_pass_yes (b : Nat) (f r h p q : Int) (w : World) (H : Tal b f r h p q w) (hp0 : -200 ≤ p) (hp1 : p ≤ 2000) (hge : r ≤ p + 1) :
    Calls Yba.prog 5 #[.pointer (some ⟨b, 0, none⟩), .bool true] w fun e w' => e = .returned (.bool (0 != h)) ∧ Tal b f r 0 r 0 w' ∧ Below b w w' := by
  obtain ⟨c0, c1, c2, c3, c4, z2, z3, z4⟩ := H
  by_cases hlt : p + 1 = r
  · subst hlt
    go_enter Yba.func5, Yba.ntmps5
    go_wp2
    go_region
    go_wp2
    go_region
    go_wp2
    go_ret
    exact ⟨by simp, ⟨by go_simp, by go_simp, by go_simp, by go_simp, by go_simp, by go_simp, by go_simp, by go_simp⟩, (bset (bset (bset (Below.refl _ _)))).drew.drew⟩
  · have hlt2 : r < p + 1 := by omega
    clear hlt hge
    go_enter Yba.func5, Yba.ntmps5
    go_wp2
    go_region
    go_wp2
    go_region
    go_wp2
    go_ret
    exact ⟨by simp, ⟨by go_simp, by go_simp, by go_simp, by go_simp, by go_simp, by go_simp, by go_simp, by go_simp⟩, (bset (bset (bset (Below.refl _ _)))).drew.drew⟩

set_option maxHeartbeats 400000 in
theorem count_fail_no (b : Nat) (f r h p q : Int) (w : World) (H : Tal b f r h p q w) (hp0 : -200 ≤ q) (hp1 : q ≤ 2000) (hlt : q + 1 < f) :
    Calls Yba.prog 5 #[.pointer (some ⟨b, 0, none⟩), .bool false] w fun e w' => e = .returned (.bool false) ∧ Tal b f r h 0 (q + 1) w' ∧ Below b w w' := by
  obtain ⟨c0, c1, c2, c3, c4, z2, z3, z4⟩ := H
  go_enter Yba.func5, Yba.ntmps5
  go_wp2
  go_region
  go_wp2
  go_region
  go_wp2
  go_ret
  exact ⟨by simp, ⟨by go_simp, by go_simp, by go_simp, by go_simp, by go_simp, by go_simp, by go_simp, by go_simp⟩, (bset (bset (Below.refl _ _))).drew.drew⟩

set_option maxHeartbeats 400000 in
theorem count_fail_yes (b : Nat) (f r h p q : Int) (w : World) (H : Tal b f r h p q w) (hp0 : -200 ≤ q) (hp1 : q ≤ 2000) (hge : f ≤ q + 1) :
    Calls Yba.prog 5 #[.pointer (some ⟨b, 0, none⟩), .bool false] w fun e w' => e = .returned (.bool (2 != h)) ∧ Tal b f r 2 0 f w' ∧ Below b w w' := by
  obtain ⟨c0, c1, c2, c3, c4, z2, z3, z4⟩ := H
  by_cases hlt : q + 1 = f
  · subst hlt
    go_enter Yba.func5, Yba.ntmps5
    go_wp2
    go_region
    go_wp2
    go_region
    go_wp2
    go_ret
    exact ⟨by simp, ⟨by go_simp, by go_simp, by go_simp, by go_simp, by go_simp, by go_simp, by go_simp, by go_simp⟩, (bset (bset (bset (Below.refl _ _)))).drew.drew⟩
  · have hlt2 : f < q + 1 := by omega
    clear hlt hge
    go_enter Yba.func5, Yba.ntmps5
    go_wp2
    go_region
    go_wp2
    go_region
    go_wp2
    go_ret
    exact ⟨by simp, ⟨by go_simp, by go_simp, by go_simp, by go_simp, by go_simp, by go_simp, by go_simp, by go_simp⟩, (bset (bset (bset (Below.refl _ _)))).drew.drew⟩
end Go.Proofs.Ybulkapmm
