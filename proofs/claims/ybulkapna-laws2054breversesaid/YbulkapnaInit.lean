/-
  The two laws' beginning, and what they share.
-/
import Derived.Test.YbulkapnaReady
namespace Go.Proofs.Ybulkapna
open Go Go.RowKit

theorem exists_stop (A : Nat → Bool) (n : Nat) : ∃ s, Stop A n s := by
  have h : (∀ k, k < n → A k = true) ∨ ∃ k, k < n ∧ A k = false ∧ ∀ j, j < k → A j = true := by
    induction n with
    | zero => exact .inl (fun k hk => by omega)
    | succ n ih =>
      rcases ih with h | ⟨k, h1, h2, h3⟩
      · cases ha : A n
        · exact .inr ⟨n, by omega, ha, h⟩
        · refine .inl (fun k hk => ?_)
          by_cases e : k = n
          · subst e; exact ha
          · exact h k (by omega)
      · exact .inr ⟨k, by omega, h2, h3⟩
  rcases h with h | ⟨k, h1, h2, h3⟩
  · exact ⟨n, Nat.le_refl _, fun k hk => h k (by omega), .inl rfl⟩
  · exact ⟨k + 1, by omega, fun j hj => h3 j (by omega), .inr ⟨k, rfl, h2⟩⟩
theorem Stop.en0 {A : Nat → Bool} {n s : Nat} (h : Stop A n s) : enOf n s 0 = n := by
  unfold enOf
  split
  · rfl
  · rcases h.top with h1 | ⟨k, h1, -⟩ <;> omega
/-- The loop that looks for the stop, where it breaks. -/
theorem Stop.at {A : Nat → Bool} {n s k : Nat} (h : Stop A n s) (hk : k < n) (hl : ∀ j, j < k → A j = true) (ha : A k = false) : s = k + 1 := by
  rcases Nat.lt_trichotomy s (k + 1) with h1 | h1 | h1
  · rcases h.top with h2 | ⟨j, h2, h3⟩
    · omega
    · rw [hl j (by omega)] at h3; cases h3
  · exact h1
  · rw [h.low k h1] at ha; cases ha
/-- .. and where it does not. -/
theorem Stop.all {A : Nat → Bool} {n s : Nat} (h : Stop A n s) (hl : ∀ j, j < n → A j = true) : s = n := by
  rcases h.top with h2 | ⟨j, h2, h3⟩
  · exact h2
  · have := h.le
    rw [hl j (by omega)] at h3; cases h3

def Seq0 (F len cap : Nat) (a : Option Addr) (C : Array Value) (w0 : World) : World :=
  (((((w0.alloc (.cells #[.slice a len cap] 22)).alloc (.cells #[.int .i64 len] 3)).alloc (.cells #[.slice none 0 0] 24)).alloc (.cells C 43)).alloc
    (.cells #[.func (.func F) #[] #[.pointer (some ⟨w0.heap.size + 1, 0, none⟩), .pointer (some ⟨w0.heap.size + 2, 0, none⟩), .pointer (some ⟨w0.heap.size, 0, none⟩)], .slice (some ⟨w0.heap.size + 3, 0, none⟩) len len, .int .i32 0, .int .u32 0, .int .i64 0, .int .i64 len] 40))
theorem Seq0_size (F len cap : Nat) (a : Option Addr) (C : Array Value) (w0 : World) : (Seq0 F len cap a C w0).heap.size = w0.heap.size + 5 := by simp [Seq0]
theorem Sq.init (F len cap : Nat) (a : Option Addr) (C : Array Value) (w0 : World) (hC : ∀ i, i < len → C[i]? = some (.int .u32 0)) :
    Sq F w0.heap.size len cap (w0.heap.size + 5) (fun _ => none) a 0 (fun _ => false) 0 len 0 (.slice none 0 0) w0 (Seq0 F len cap a C w0) := by
  have hrow : (Seq0 F len cap a C w0).heap[w0.heap.size + 3]? = some (.cells C 43 (0, 0)) := by
    unfold Seq0
    rw [Below.heap_alloc _ _ _ (by simp)]
    have := heap_alloc_new (((w0.alloc (.cells #[.slice a len cap] 22)).alloc (.cells #[.int .i64 len] 3)).alloc (.cells #[.slice none 0 0] 24)) (.cells C 43)
    simpa only [World.size_alloc] using this
  have hbel : Below w0.heap.size w0 (Seq0 F len cap a C w0) := ((((((Below.refl _ _).alloc (Nat.le_refl _) _).alloc (by simp) _).alloc (by simp; omega) _).alloc (by simp; omega) _).alloc (by simp; omega) _)
  refine ⟨?_, ?_, ?_, ?_, ?_, ?_, ?_, ?_, ?_, ?_, ?_, ?_, fun i hi => ?_, fun i => frozen_of_row _ _ _ _ _ hrow, World.ownsRow_nil _ _ _ _, fun i h1 h2 => by omega, Nat.le_refl _, hbel, by rw [Seq0_size]; exact Nat.le_refl _⟩
  any_goals (unfold Seq0; clear hbel hrow hC; go_simp; done)
  rw [cell_of_row _ _ _ _ _ _ hrow]
  exact hC i hi
end Go.Proofs.Ybulkapna
