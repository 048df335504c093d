/-
  The plain law of LawS2050AAwait: what the map reads as after the entries have been put, and what the law's two loops count.
-/
import Derived.Test.YbulkapkwDone
import Derived.Maps.Views
import Derived.Lib.Strings
namespace Go.Proofs.Ybulkapkw
open Go Go.Maps

def keyL (S : Nat → ByteArray) (i : Nat) : Lit := .string (S i).data.toList
def DD (S : Nat → ByteArray) (A B C : Nat → Bool) : Nat → DataW Unit
  | 0 => .map []
  | k + 1 => (DD S A B C k).put (keyL S k) (progD (A k) (B k) (C k))

theorem key_iff {S : Nat → ByteArray} {i j : Nat} : ((S j).toList == (S i).toList) = true ↔ keyL S j = keyL S i := by
  rw [Lib.toList_data, Lib.toList_data]
  simp [keyL]
theorem key_ne {S : Nat → ByteArray} {i j : Nat} : ((S j).toList == (S i).toList) = false ↔ keyL S j ≠ keyL S i := by
  rw [← Bool.not_eq_true, key_iff]

section
variable {S : Nat → ByteArray} {A B C : Nat → Bool}
theorem isKey (i : Nat) : WideAt.IsKeyLit (keyL S i) := trivial
theorem DD_tidy : ∀ k, Tidy (DD S A B C k)
  | 0 => tidy_empty
  | k + 1 => (DD_tidy k).put (isKey k) _

theorem DD_at {i : Nat} : ∀ k, i < k → (∀ m, i < m → m < k → keyL S m ≠ keyL S i) → (∀ z, (DD S A B C k).atKey (keyL S i) z = progD (A i) (B i) (C i)) ∧ has (DD S A B C k) (keyL S i) = true
  | 0, h, _ => by omega
  | k + 1, h, hl => by
    by_cases e : i = k
    · subst e
      exact ⟨fun z => atKey_put_same (DD_tidy i).isMap (isKey i) _ z, has_put_same (DD_tidy i).isMap (isKey i) _⟩
    · obtain ⟨h1, h2⟩ := DD_at k (by omega) (fun m a b => hl m a (by omega))
      have hne : keyL S i ≠ keyL S k := (hl k (by omega) (by omega)).symm
      exact ⟨fun z => (atKey_put_other hne _ z).trans (h1 z), (has_put_other hne _).trans h2⟩

theorem last_iff {len i : Nat} : lastB S len i = true ↔ ∀ m, i < m → m < len → keyL S m ≠ keyL S i := by
  rw [lastB_iff]
  exact ⟨fun h m a b => key_ne.1 (h m a b), fun h m a b => key_ne.2 (h m a b)⟩
theorem last_at {len i : Nat} (hi : i < len) (h : lastB S len i = true) : (∀ z, (DD S A B C len).atKey (keyL S i) z = progD (A i) (B i) (C i)) ∧ has (DD S A B C len) (keyL S i) = true :=
  DD_at len hi (last_iff.1 h)

theorem last_succ {k i : Nat} (hi : i < k) : lastB S (k + 1) i = (lastB S k i && !((S k).toList == (S i).toList)) := by
  rw [Bool.eq_iff_iff, last_iff, Bool.and_eq_true, last_iff, Bool.not_eq_true', key_ne]
  constructor
  · intro h; exact ⟨fun m a b => h m a (by omega), h k hi (by omega)⟩
  · rintro ⟨h1, h2⟩ m a b
    by_cases e : m = k
    · subst e; exact h2
    · exact h1 m a (by omega)
theorem last_self (k : Nat) : lastB S (k + 1) k = true := last_iff.2 (fun m a b => by omega)

theorem has_last {kl : Lit} : ∀ k, has (DD S A B C k) kl = true → ∃ i, i < k ∧ lastB S k i = true ∧ kl = keyL S i
  | 0, h => by simp [DD, has] at h
  | k + 1, h => by
    by_cases e : kl = keyL S k
    · exact ⟨k, by omega, last_self k, e⟩
    · rw [DD, has_put_other e] at h
      obtain ⟨i, hi, hl, rfl⟩ := has_last k h
      refine ⟨i, by omega, ?_, rfl⟩
      rw [last_succ hi, hl, Bool.true_and, Bool.not_eq_true']
      exact key_ne.2 (fun h2 => e h2.symm)

def cnt (S : Nat → ByteArray) (len k : Nat) : Nat := ((List.range k).filter (lastB S len)).length
theorem cnt_succ (len k : Nat) : cnt S len (k + 1) = cnt S len k + if lastB S len k then 1 else 0 := by
  unfold cnt
  rw [List.range_succ, List.filter_append, List.length_append]
  cases h : lastB S len k <;> simp [h]

theorem filter_split (l : List Nat) (p q : Nat → Bool) : (l.filter fun i => p i && !q i).length + (l.filter fun i => p i && q i).length = (l.filter p).length := by
  induction l with
  | nil => rfl
  | cons x r ih =>
    cases hp : p x <;> cases hq : q x <;> simp [hp, hq] <;> omega

/-- Among the first k, at most one last entry has a given id; one just if the map has it. -/
theorem one_with {k : Nat} : ((List.range k).filter fun i => lastB S k i && ((S k).toList == (S i).toList)).length = if has (DD S A B C k) (keyL S k) then 1 else 0 := by
  cases hh : has (DD S A B C k) (keyL S k) with
  | false =>
    rw [List.filter_eq_nil_iff.2]
    · rfl
    · intro i hi hc
      simp only [Bool.and_eq_true] at hc
      have := (last_at (A := A) (B := B) (C := C) (List.mem_range.1 hi) hc.1).2
      rw [← key_iff.1 hc.2, hh] at this
      cases this
  | true =>
    obtain ⟨j, hj, hl, he⟩ := has_last k hh
    have key : ∀ i, i < k → (lastB S k i && ((S k).toList == (S i).toList)) = decide (i = j) := by
      intro i hi
      rw [Bool.eq_iff_iff, Bool.and_eq_true, key_iff, decide_eq_true_eq]
      constructor
      · rintro ⟨h1, h2⟩
        have h3 : keyL S i = keyL S j := h2.symm.trans he
        rcases Nat.lt_trichotomy i j with h | h | h
        · exact absurd h3.symm (last_iff.1 h1 j h hj)
        · exact h
        · exact absurd h3 (last_iff.1 hl i h hi)
      · rintro rfl; exact ⟨hl, he⟩
    rw [List.filter_congr (fun i hi => key i (List.mem_range.1 hi))]
    have : ∀ n, j < n → ((List.range n).filter fun i => decide (i = j)).length = 1 := by
      intro n
      induction n with
      | zero => intro h; omega
      | succ n ih =>
        intro h
        rw [List.range_succ, List.filter_append, List.length_append]
        by_cases e : n = j
        · subst e
          have hz : ((List.range n).filter fun i => decide (i = n)) = [] := List.filter_eq_nil_iff.2 (fun i hi hc => by simp at hc hi; omega)
          rw [hz]; simp
        · rw [ih (by omega)]; simp [e]
    simpa using this k hj

theorem size_DD : ∀ k, Maps.size (DD S A B C k) = cnt S k k
  | 0 => rfl
  | k + 1 => by
    rw [DD, size_put (DD_tidy k), size_DD k, cnt_succ, last_self]
    have h1 : cnt S (k + 1) k = ((List.range k).filter fun i => lastB S k i && !((S k).toList == (S i).toList)).length := by
      unfold cnt
      rw [List.filter_congr (fun i hi => last_succ (List.mem_range.1 hi))]
    have h2 := filter_split (List.range k) (lastB S k) (fun i => (S k).toList == (S i).toList)
    have h3 := one_with (S := S) (A := A) (B := B) (C := C) (k := k)
    have h4 : cnt S k k = ((List.range k).filter (lastB S k)).length := rfl
    rw [h1]
    cases hh : has (DD S A B C k) (keyL S k)
    · rw [hh] at h3
      simp only [Bool.false_eq_true, if_false, if_true] at h3 ⊢
      omega
    · rw [hh] at h3
      simp only [if_true] at h3 ⊢
      omega

def wantB (S : Nat → ByteArray) (A C : Nat → Bool) (len k : Nat) : Bool := (List.range k).all fun i => !(lastB S len i) || !(A i && !(C i))
theorem want_succ (len k : Nat) : wantB S A C len (k + 1) = (wantB S A C len k && (!(lastB S len k) || !(A k && !(C k)))) := by
  unfold wantB
  rw [List.range_succ, List.all_append]
  simp
theorem quiet_of {len : Nat} (h : wantB S A C len len = true) : Quiet (DD S A B C len) := by
  intro kl a b c hh hat
  obtain ⟨i, hi, hl, rfl⟩ := has_last len hh
  obtain ⟨rfl, rfl, rfl⟩ := progD_inj ((hat .nil).symm.trans ((last_at hi hl).1 .nil))
  have := List.all_eq_true.1 h i (List.mem_range.2 hi)
  rw [hl] at this
  cases ha : (A i && !(C i))
  · rfl
  · rw [ha] at this; cases this
theorem waits_of {len : Nat} (h : wantB S A C len len = false) : Waits (DD S A B C len) := by
  obtain ⟨i, hi, hc⟩ := List.all_eq_false.1 h
  have hi' := List.mem_range.1 hi
  have hl : lastB S len i = true := by cases hb : lastB S len i <;> simp [hb] at hc ⊢
  have hac : (A i && !(C i)) = true := by simpa [hl] using hc
  exact ⟨keyL S i, A i, B i, C i, (last_at hi' hl).2, (last_at hi' hl).1, hac⟩
end
end Go.Proofs.Ybulkapkw
