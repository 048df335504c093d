/-
  The plain law of LawS2053BSortedHosts: what the map reads as, the sorted keys, and what the law's own insertion makes.
-/
import Derived.Maps.Views
import Derived.Maps.OwnSet
import Derived.Sort.KeysCollected
import Derived.Lib.Strings
namespace Go.Proofs.Ybulkapmm
open Go Go.Maps Go.Sort

/-- A host: the node (which is the state, too), since, run, revision. -/
structure HostT where
  s : ByteArray
  nm : ByteArray
  r : Int
  v : Int
def hostCells (t : HostT) : List Value := [.string t.s, .string t.s, .string t.nm, .int .i64 t.r, .int .i64 t.v]
def hostV (t : HostT) : Value := .agg #[.string t.s, .string t.s, .string t.nm, .int .i64 t.r, .int .i64 t.v]
def hostD (t : HostT) : DataW Unit := .agg [.lit (.string t.s.data.toList), .lit (.string t.nm.data.toList), .lit (.int .i64 t.r), .lit (.int .i64 t.v)]
theorem bytes_inj {x y : ByteArray} (h : x.data.toList = y.data.toList) : x = y := by
  obtain ⟨⟨x⟩⟩ := x; obtain ⟨⟨y⟩⟩ := y; simp at h; rw [h]
theorem hostV_inj {t u : HostT} (h : hostV t = hostV u) : t = u := by
  obtain ⟨a, b, c, d⟩ := t; obtain ⟨a', b', c', d'⟩ := u
  simp only [hostV, Value.agg.injEq, Array.mk.injEq, List.cons.injEq, Value.string.injEq, Value.int.injEq] at h
  obtain ⟨rfl, -, rfl, ⟨-, rfl⟩, ⟨-, rfl⟩, -⟩ := h
  rfl
theorem hostD_inj {t u : HostT} (h : hostD t = hostD u) : t = u := by
  obtain ⟨a, b, c, d⟩ := t; obtain ⟨a', b', c', d'⟩ := u
  simp only [hostD, DataW.agg.injEq, List.cons.injEq, DataW.lit.injEq, Lit.string.injEq, Lit.int.injEq] at h
  obtain ⟨h1, h2, ⟨-, rfl⟩, ⟨-, rfl⟩, -⟩ := h
  obtain rfl := bytes_inj h1
  obtain rfl := bytes_inj h2
  rfl
/-- How the map's elements are read. -/
structure Reader (R : Value → Option (DataW Unit × List MemPlace)) : Prop where
  made : ∀ t, R (hostV t) = some (hostD t, [])
  inv : ∀ v z, R v = some z → ∃ t, v = hostV t ∧ z = (hostD t, [])
theorem exists_reader : ∃ R, Reader R := by
  classical
  refine ⟨fun v => if h : ∃ t, v = hostV t then some (hostD (Classical.choose h), []) else Option.none, ?_, ?_⟩
  · intro t
    have h : ∃ u, hostV t = hostV u := ⟨t, rfl⟩
    rw [dif_pos h, ← hostV_inj (Classical.choose_spec h)]
  · intro v z hz
    by_cases h : ∃ t, v = hostV t
    · rw [dif_pos h] at hz
      exact ⟨_, Classical.choose_spec h, by simpa using hz.symm⟩
    · rw [dif_neg h] at hz; cases hz

section
variable {S : Nat → ByteArray} {nm : ByteArray} {rv : Nat → Int}

def ent (S : Nat → ByteArray) (nm : ByteArray) (rv : Nat → Int) (i : Nat) : HostT := ⟨S i, nm, i, rv i⟩
def keyL (S : Nat → ByteArray) (i : Nat) : Lit := .string (S i).data.toList
/-- The map behind the first k entries. -/
def DD (S : Nat → ByteArray) (nm : ByteArray) (rv : Nat → Int) : Nat → DataW Unit
  | 0 => .map []
  | k + 1 => (DD S nm rv k).put (keyL S k) (hostD (ent S nm rv k))
/-- The last of the first k entries that has these bytes; -1: none. -/
def lastOf (S : Nat → ByteArray) (b : List UInt8) : Nat → Int
  | 0 => -1
  | k + 1 => if (S k).data.toList = b then k else lastOf S b k

theorem isKey (b : List UInt8) : WideAt.IsKeyLit (.string b) := trivial
theorem DD_tidy : ∀ k, Tidy (DD S nm rv k)
  | 0 => tidy_empty
  | k + 1 => (DD_tidy k).put (isKey _) _
theorem lastOf_bd (b : List UInt8) : ∀ k : Nat, -1 ≤ lastOf S b k ∧ lastOf S b k < k
  | 0 => ⟨by simp [lastOf], by simp [lastOf]⟩
  | k + 1 => by
    have := lastOf_bd b k
    unfold lastOf
    split <;> omega
theorem lastOf_key {b : List UInt8} : ∀ k : Nat, 0 ≤ lastOf S b k → (S (lastOf S b k).toNat).data.toList = b
  | 0, h => by simp [lastOf] at h
  | k + 1, h => by
    unfold lastOf at h ⊢
    split
    · rename_i e; simpa using e
    · rename_i e; rw [if_neg e] at h; exact lastOf_key k h
theorem DD_at (b : List UInt8) : ∀ k : Nat, (0 ≤ lastOf S b k → ∀ z, (DD S nm rv k).atKey (.string b) z = hostD (ent S nm rv (lastOf S b k).toNat)) ∧ has (DD S nm rv k) (.string b) = decide (0 ≤ lastOf S b k)
  | 0 => ⟨fun h => by simp [lastOf] at h, by simp [DD, has, lastOf]⟩
  | k + 1 => by
    obtain ⟨h1, h2⟩ := DD_at b k
    unfold lastOf
    by_cases e : (S k).data.toList = b
    · subst e
      rw [if_pos rfl]
      refine ⟨fun _ z => ?_, ?_⟩
      · exact (atKey_put_same (DD_tidy k).isMap (isKey _) _ z).trans (by simp)
      · rw [show has (DD S nm rv (k + 1)) (.string (S k).data.toList) = true from has_put_same (DD_tidy k).isMap (isKey _) _]
        simp
    · rw [if_neg e]
      have hne : Lit.string b ≠ keyL S k := fun h => e (by simpa [keyL] using h.symm)
      exact ⟨fun h z => (atKey_put_other hne _ z).trans (h1 h z), (has_put_other hne _).trans h2⟩

/-! ### The law's own insertion -/
/-- How many of the row's first elements are less than b. -/
def posOf (b : List UInt8) : List (List UInt8) → Nat
  | [] => 0
  | x :: r => if x < b then posOf b r + 1 else 0
def insAt (b : List UInt8) (l : List (List UInt8)) : List (List UInt8) := if l[posOf b l]? = some b then l else l.take (posOf b l) ++ b :: l.drop (posOf b l)
def WW (S : Nat → ByteArray) : Nat → List (List UInt8)
  | 0 => []
  | k + 1 => insAt (S k).data.toList (WW S k)

theorem posOf_le (b : List UInt8) : ∀ l, posOf b l ≤ l.length
  | [] => Nat.le_refl _
  | x :: r => by
    have := posOf_le b r
    unfold posOf
    split <;> simp <;> omega
theorem posOf_lt {b : List UInt8} : ∀ {l : List (List UInt8)} {i : Nat}, i < posOf b l → ∃ x, l[i]? = some x ∧ x < b
  | [], i, h => by simp [posOf] at h
  | x :: r, i, h => by
    unfold posOf at h
    split at h
    · rename_i hx
      cases i with
      | zero => exact ⟨x, rfl, hx⟩
      | succ i => obtain ⟨y, h1, h2⟩ := posOf_lt (b := b) (l := r) (i := i) (by omega); exact ⟨y, by simpa using h1, h2⟩
    · omega
theorem posOf_ge {b : List UInt8} : ∀ {l : List (List UInt8)} {x : List UInt8}, l[posOf b l]? = some x → ¬ x < b
  | [], x, h => by simp [posOf] at h
  | y :: r, x, h => by
    unfold posOf at h
    split at h
    · exact posOf_ge (l := r) (by simpa using h)
    · rename_i hx
      simp at h
      subst h
      exact hx
/-- posOf is told by its two sides. -/
theorem posOf_eq {b : List UInt8} {l : List (List UInt8)} {p : Nat} (hp : p ≤ l.length) (h1 : ∀ i x, i < p → l[i]? = some x → x < b) (h2 : ∀ x, l[p]? = some x → ¬ x < b) : posOf b l = p := by
  rcases Nat.lt_trichotomy (posOf b l) p with h | h | h
  · obtain ⟨x, hx⟩ : ∃ x, l[posOf b l]? = some x := ⟨l[posOf b l]'(by omega), List.getElem?_eq_getElem _⟩
    exact absurd (h1 _ x h hx) (posOf_ge hx)
  · exact h
  · obtain ⟨x, hx, hlt⟩ := posOf_lt h
    exact absurd hlt (h2 x hx)

theorem lt_of_not {a b : List UInt8} (h : ¬ a < b) (hne : a ≠ b) : b < a := by
  rcases Std.lt_trichotomy a b with h1 | h1 | h1
  · exact absurd h1 h
  · exact absurd h1 hne
  · exact h1

theorem ins_mem {b x : List UInt8} {l : List (List UInt8)} : x ∈ insAt b l ↔ x = b ∨ x ∈ l := by
  unfold insAt
  split
  · rename_i h
    have := List.mem_of_getElem? h
    constructor
    · exact Or.inr
    · rintro (rfl | h2)
      · exact this
      · exact h2
  · rw [List.mem_append, List.mem_cons]
    have e := List.take_append_drop (posOf b l) l
    constructor
    · rintro (h | h | h)
      · exact .inr (List.mem_of_mem_take h)
      · exact .inl h
      · exact .inr (List.mem_of_mem_drop h)
    · rintro (h | h)
      · exact .inr (.inl h)
      · rw [← e, List.mem_append] at h
        rcases h with h | h
        · exact .inl h
        · exact .inr (.inr h)
theorem ins_sorted {b : List UInt8} {l : List (List UInt8)} (h : l.Pairwise (· < ·)) : (insAt b l).Pairwise (· < ·) := by
  unfold insAt
  split
  · exact h
  · rename_i hne
    have e := List.take_append_drop (posOf b l) l
    rw [← e, List.pairwise_append] at h
    obtain ⟨h1, h2, h3⟩ := h
    have hlow : ∀ x ∈ l.take (posOf b l), x < b := by
      intro x hx
      obtain ⟨i, hi, rfl⟩ := List.getElem_of_mem hx
      have hi' : i < posOf b l := by simp at hi; omega
      obtain ⟨y, hy, hlt⟩ := posOf_lt hi'
      rw [List.getElem_take]
      have : l[i]? = some (l[i]'(by simp at hi; omega)) := List.getElem?_eq_getElem _
      rw [this] at hy
      cases hy
      exact hlt
    have hhigh : ∀ x ∈ l.drop (posOf b l), b < x := by
      intro x hx
      have hfirst : ∀ y, l[posOf b l]? = some y → b < y := fun y hy => lt_of_not (posOf_ge hy) (fun e => hne (by rw [hy, e]))
      cases hd : l.drop (posOf b l) with
      | nil => rw [hd] at hx; cases hx
      | cons y r =>
        have hy : l[posOf b l]? = some y := by
          have := congrArg (·[0]?) hd
          simpa using this
        rw [hd] at hx h2
        rcases List.mem_cons.1 hx with rfl | hx
        · exact hfirst _ hy
        · exact Std.lt_trans (hfirst y hy) ((List.pairwise_cons.1 h2).1 x hx)
    rw [List.pairwise_append]
    refine ⟨h1, List.pairwise_cons.2 ⟨hhigh, h2⟩, ?_⟩
    intro x hx y hy
    rcases List.mem_cons.1 hy with rfl | hy
    · exact hlow x hx
    · exact h3 x hx y hy
theorem WW_sorted : ∀ k, (WW S k).Pairwise (· < ·)
  | 0 => List.Pairwise.nil
  | k + 1 => ins_sorted (WW_sorted k)
theorem WW_mem (b : List UInt8) : ∀ k, b ∈ WW S k ↔ 0 ≤ lastOf S b k
  | 0 => by simp [WW, lastOf]
  | k + 1 => by
    rw [WW, ins_mem, WW_mem b k, lastOf]
    by_cases e : (S k).data.toList = b
    · rw [if_pos e]; simp [e.symm]
    · rw [if_neg e]
      constructor
      · rintro (h | h)
        · exact absurd h.symm e
        · exact h
      · exact Or.inr
theorem WW_length : ∀ k, (WW S k).length ≤ k
  | 0 => Nat.le_refl _
  | k + 1 => by
    have := WW_length k
    have hp := posOf_le (S k).data.toList (WW S k)
    rw [WW, insAt]
    split
    · omega
    · simp; omega

theorem sorted_ext : ∀ {l m : List (List UInt8)}, l.Pairwise (· < ·) → m.Pairwise (· < ·) → (∀ x, x ∈ l ↔ x ∈ m) → l = m
  | [], [], _, _, _ => rfl
  | [], y :: _, _, _, h => absurd ((h y).2 (by simp)) (by simp)
  | x :: _, [], _, _, h => absurd ((h x).1 (by simp)) (by simp)
  | x :: r, y :: s, hl, hm, h => by
    have hl' := List.pairwise_cons.1 hl
    have hm' := List.pairwise_cons.1 hm
    have hxy : x = y := by
      rcases List.mem_cons.1 ((h x).1 (by simp)) with e | e
      · exact e
      · rcases List.mem_cons.1 ((h y).2 (by simp)) with e2 | e2
        · exact e2.symm
        · exact absurd (Std.lt_trans (hm'.1 x e) (hl'.1 y e2)) Std.lt_irrefl
    subst hxy
    congr 1
    refine sorted_ext hl'.2 hm'.2 (fun z => ?_)
    have := h z
    simp only [List.mem_cons] at this
    constructor
    · intro hz
      rcases this.1 (.inr hz) with e | e
      · subst e; exact absurd (hl'.1 z hz) (Std.lt_irrefl)
      · exact e
    · intro hz
      rcases this.2 (.inr hz) with e | e
      · subst e; exact absurd (hm'.1 z hz) (Std.lt_irrefl)
      · exact e

theorem WW_nodup (k : Nat) : (WW S k).Nodup := List.Pairwise.imp_of_mem (R := (· < ·)) (fun {a b} _ _ h e => by subst e; exact Std.lt_irrefl h) (WW_sorted k)
/-- The map's keys, sorted, are what the law's insertion makes. -/
theorem sorted_keys {k : Nat} (hkey : ∀ es, DD S nm rv k = .map es → ∀ p ∈ es, ∃ x, p.1 = .string x) {ss : List (List UInt8)} (h : ss.Perm (strKeys (DD S nm rv k))) : ss.mergeSort (fun x y => decide (x ≤ y)) = WW S k := by
  obtain ⟨es, he, hp⟩ := DD_tidy (S := S) (nm := nm) (rv := rv) k
  have h2 : (WW S k).Perm (strKeys (DD S nm rv k)) := by
    rw [he]
    refine perm_strKeys hp (hkey es he) (WW_nodup k) (fun x => ?_)
    rw [← he, (DD_at x k).2, WW_mem]
    simp
  have e := mergeSort_of_perm (h.trans h2.symm)
  refine e.trans (List.mergeSort_of_pairwise (le := leB) ?_)
  refine List.Pairwise.imp_of_mem (R := (· < ·)) (fun {a b} _ _ h => ?_) (WW_sorted k)
  simp only [leB, decide_eq_true_eq]
  exact List.le_of_lt h
theorem DD_size (k : Nat) : size (DD S nm rv k) ≤ k := by
  induction k with
  | zero => simp [DD, size]
  | succ k ih =>
    have : size (DD S nm rv (k + 1)) = _ := size_put (k := keyL S k) (DD_tidy k) (hostD (ent S nm rv k))
    rw [this]
    split <;> omega
end
end Go.Proofs.Ybulkapmm
