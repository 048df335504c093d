/-
  zzs2050alast: is entry i the last with its id?
-/
import Derived.Test.YbulkapkwRows
import Derived.WalkKit
import Derived.WalkLawsBesides
import Derived.LoopTactic
import Derived.Below
import Derived.Deep.QuietTactic
import Derived.BigQuiet
namespace Go.Proofs.Ybulkapkw
open Go Go.RowKit

/-- The entries that came in: four cells each. -/
structure Ents (w : World) (b off len : Nat) (S : Nat → ByteArray) (A B C : Nat → Bool) : Prop where
  lt : b < w.heap.size
  c0 : ∀ i, i < len → w.cell? ⟨b, off + i * 4, none⟩ = some (.string (S i))
  c1 : ∀ i, i < len → w.cell? ⟨b, off + i * 4 + 1, none⟩ = some (.bool (A i))
  c2 : ∀ i, i < len → w.cell? ⟨b, off + i * 4 + 2, none⟩ = some (.bool (B i))
  c3 : ∀ i, i < len → w.cell? ⟨b, off + i * 4 + 3, none⟩ = some (.bool (C i))
theorem Ents.below {w w' : World} {b off len N : Nat} {S : Nat → ByteArray} {A B C : Nat → Bool} (h : Ents w b off len S A B C) (hb : Below N w w') (hN : b < N) : Ents w' b off len S A B C :=
  ⟨Nat.lt_of_lt_of_le h.lt hb.size, fun i hi => (hb.cell hN).trans (h.c0 i hi), fun i hi => (hb.cell hN).trans (h.c1 i hi), fun i hi => (hb.cell hN).trans (h.c2 i hi), fun i hi => (hb.cell hN).trans (h.c3 i hi)⟩

theorem ret_bool {a b : Bool} (h : a = b) : Ending.returned (.bool a) = .returned (.bool b) := by rw [h]
theorem drewN_drewN (w : World) (n m : Nat) : (w.drewN n).drewN m = w.drewN (n + m) := by simp [World.drewN, Nat.add_assoc]

/-- Is entry i the last with its id? -/
def lastB (S : Nat → ByteArray) (len i : Nat) : Bool := (List.range len).all fun j => !(decide (i < j)) || !((S j).toList == (S i).toList)

theorem lastB_iff {S : Nat → ByteArray} {len i : Nat} : lastB S len i = true ↔ ∀ m, i < m → m < len → ((S m).toList == (S i).toList) = false := by
  unfold lastB
  rw [List.all_eq_true]
  constructor
  · intro h m h1 h2
    have := h m (List.mem_range.2 h2)
    simpa [h1] using this
  · intro h m hm
    by_cases h1 : i < m
    · simp [h1, h m h1 (List.mem_range.1 hm)]
    · simp [h1]
theorem lastB_no {S : Nat → ByteArray} {len i k : Nat} (h1 : i < k) (h2 : k < len) (h : ((S k).toList == (S i).toList) = true) : lastB S len i = false := by
  cases hl : lastB S len i
  · rfl
  · rw [lastB_iff.1 hl k h1 h2] at h; cases h

set_option maxHeartbeats 400000 in
theorem alast_any (b off len cap : Nat) (S : Nat → ByteArray) (A B C : Nat → Bool) (i : Nat) (w : World) (hlen : len ≤ 256) (hi : i < len) (HE : Ents w b off len S A B C) :
    Calls Yba.prog 6 #[.slice (some ⟨b, off, none⟩) len cap, .int .i64 i] w fun e w' => e = .returned (.bool (lastB S len i)) ∧ ∃ n, w' = w.drewN n := by
  go_enter Yba.func6, Yba.ntmps6
  go_wp2
  go_loopw [5] (fun j wr => ∃ k : Nat, i + 1 ≤ k ∧ k ≤ len ∧ j = .int .i64 k ∧ (∃ n, wr = w.drewN n) ∧ ∀ m, i < m → m < k → ((S m).toList == (S i).toList) = false) (fun j _ => len - (intOf j).toNat)
  case atStart => exact ⟨i + 1, by omega, by omega, by go_num, ⟨0, rfl⟩, fun m h1 h2 => by omega⟩
  case round =>
    obtain ⟨k, h1, h2, rfl, ⟨n, rfl⟩, h3⟩ := hrel
    by_cases hlt : k < len
    · have g0 := HE.c0 k hlt
      have g1 := HE.c0 i hi
      have b0 : (k : Int) < (len : Int) := by omega
      have b1 : (i : Int) < (len : Int) := by omega
      have H3 : Hid (∀ m, i < m → m < k → ((S m).toList == (S i).toList) = false) := h3
      clear h3
      go_wp2
      go_quiet (fail)
      go_wp2
      · have ht : ((S k).toList == (S i).toList) = true := by assumption
        have hl := lastB_no (by omega) hlt ht
        go_ret
        exact ⟨ret_bool hl.symm, n + nq, drewN_drewN _ _ _⟩
      · have hf : ((S k).toList == (S i).toList) = false := by assumption
        go_roundw
        case rel =>
          refine ⟨k + 1, by omega, by omega, by go_num, ⟨_, rfl⟩, fun m a1 a2 => ?_⟩
          by_cases e : m = k
          · subst e; exact hf
          · exact H3.out m a1 (by omega)
        case measure => simp [intOf]; omega
    · have hl : lastB S len i = true := lastB_iff.2 (fun m a1 a2 => h3 m a1 (by omega))
      have HL : Hid (lastB S len i = true) := hl
      clear h3 hl
      go_wp2
      go_ret
      exact ⟨ret_bool HL.out.symm, n, rfl⟩
end Go.Proofs.Ybulkapkw
