/-
  The plain law of LawS2049CLine: no Go in sight. What the law's own helper computes ('zz') is what ArrayIndex computes ('arr').
-/
import Derived.Lib.AtoiAllCases
import Derived.Lib.ItoaMem
import GoSem.Op.String
namespace Go.Proofs.YbulkapkiDoor
open Go.Lib

/-- A decimal digit. -/
def isDig (c : UInt8) : Bool := decide (48 ≤ c.toNat) && decide (c.toNat ≤ 57)
/-- One digit more. -/
def step (acc : Nat) (c : UInt8) : Nat := acc * 10 + (c.toNat - 48)
/-- What the digits spell behind 'acc'. -/
def val (acc : Nat) (l : List UInt8) : Nat := l.foldl step acc
theorem val_nil (acc : Nat) : val acc [] = acc := rfl
theorem val_cons (acc : Nat) (c : UInt8) (r : List UInt8) : val acc (c :: r) = val (acc * 10 + (c.toNat - 48)) r := by
  simp only [val, List.foldl_cons, step]
/-- The greatest int. -/
def nine : List UInt8 := [57, 50, 50, 51, 51, 55, 50, 48, 51, 54, 56, 53, 52, 55, 55, 53, 56, 48, 55]
def headZero : List UInt8 → Bool
  | c :: _ :: _ => c == 48
  | _ => false
def tooGreat (l : List UInt8) : Bool := decide (l.length = 19) && !(Op.bytesLess l nine || l == nine)
def good (l : List UInt8) : Bool := !l.isEmpty && decide (l.length ≤ 19) && l.all isDig && !headZero l && !tooGreat l

theorem isDig_iff {c : UInt8} : isDig c = true ↔ 48 ≤ c.toNat ∧ c.toNat ≤ 57 := by simp [isDig]

theorem val_append (l m : List UInt8) (acc : Nat) : val acc (l ++ m) = val (val acc l) m := by
  simp only [val, List.foldl_append]
theorem val_snoc (l : List UInt8) (c : UInt8) (acc : Nat) : val acc (l ++ [c]) = val acc l * 10 + (c.toNat - 48) := by
  rw [val_append, val_cons, val_nil]
theorem val_ge : ∀ (l : List UInt8) (acc : Nat), acc ≤ val acc l
  | [], _ => Nat.le_refl _
  | c :: r, acc => by
    simp only [val_cons]
    have := val_ge r (acc * 10 + (c.toNat - 48))
    omega
theorem val_lt_of : ∀ (l m : List UInt8) (a b : Nat), l.length = m.length → l.all isDig = true → a < b → val a l < val b m
  | [], [], _, _, _, _, h => h
  | [], _ :: _, _, _, h, _, _ => by simp at h
  | _ :: _, [], _, _, h, _, _ => by simp at h
  | c :: r, d :: s, a, b, hl, hd, h => by
    simp only [List.all_cons, Bool.and_eq_true] at hd
    have hc := isDig_iff.1 hd.1
    simp only [val_cons]
    exact val_lt_of r s _ _ (by simpa using hl) hd.2 (by omega)
theorem val_less : ∀ (l m : List UInt8) (acc : Nat), l.length = m.length → l.all isDig = true → m.all isDig = true → Op.bytesLess l m = true → val acc l < val acc m
  | [], [], _, _, _, _, h => by simp [Op.bytesLess] at h
  | [], _ :: _, _, h, _, _, _ => by simp at h
  | _ :: _, [], _, h, _, _, _ => by simp at h
  | c :: r, d :: s, acc, hl, hd, hm, h => by
    simp only [List.all_cons, Bool.and_eq_true] at hd hm
    have hc := isDig_iff.1 hd.1
    have hc' := isDig_iff.1 hm.1
    simp only [Op.bytesLess, Bool.or_eq_true, Bool.and_eq_true, decide_eq_true_eq, beq_iff_eq] at h
    simp only [val_cons]
    rcases h with h | ⟨rfl, h⟩
    · have h' : c.toNat < d.toNat := UInt8.lt_iff_toNat_lt.1 h
      exact val_lt_of r s _ _ (by simpa using hl) hd.2 (by omega)
    · exact val_less r s _ (by simpa using hl) hd.2 hm.2 h
theorem val_more : ∀ (l m : List UInt8) (acc : Nat), l.length = m.length → l.all isDig = true → m.all isDig = true → Op.bytesLess l m = false → l ≠ m → val acc m < val acc l
  | [], [], _, _, _, _, _, h => absurd rfl h
  | [], _ :: _, _, h, _, _, _, _ => by simp at h
  | _ :: _, [], _, h, _, _, _, _ => by simp at h
  | c :: r, d :: s, acc, hl, hd, hm, h, hne => by
    simp only [List.all_cons, Bool.and_eq_true] at hd hm
    have hc := isDig_iff.1 hd.1
    have hc' := isDig_iff.1 hm.1
    simp only [Op.bytesLess, Bool.or_eq_false_iff, decide_eq_false_iff_not] at h
    simp only [val_cons]
    by_cases e : c = d
    · subst e
      have h2 : Op.bytesLess r s = false := by simpa using h.2
      exact val_more r s _ (by simpa using hl) hd.2 hm.2 h2 (fun e => hne (by rw [e]))
    · have h1 : ¬ c.toNat < d.toNat := fun hh => h.1 (UInt8.lt_iff_toNat_lt.2 hh)
      have h2 : c.toNat ≠ d.toNat := fun hh => e (UInt8.toNat_inj.1 hh)
      exact val_lt_of s r _ _ (by simpa using hl.symm) hm.2 (by omega)
theorem val_lt_pow : ∀ (l : List UInt8) (acc : Nat), l.all isDig = true → val acc l < (acc + 1) * 10 ^ l.length
  | [], acc, _ => by simp [val_nil]
  | c :: r, acc, hd => by
    simp only [List.all_cons, Bool.and_eq_true] at hd
    have hc := isDig_iff.1 hd.1
    have h := val_lt_pow r (acc * 10 + (c.toNat - 48)) hd.2
    have h2 : (acc * 10 + (c.toNat - 48) + 1) * 10 ^ r.length ≤ ((acc + 1) * 10) * 10 ^ r.length := Nat.mul_le_mul_right _ (by omega)
    simp only [val_cons, List.length_cons, Nat.pow_succ]
    have h3 : (acc + 1) * (10 ^ r.length * 10) = ((acc + 1) * 10) * 10 ^ r.length := by rw [Nat.mul_comm (10 ^ r.length) 10, Nat.mul_assoc]
    omega
theorem nine_val : val 0 nine = 9223372036854775807 := by decide
theorem nine_dig : nine.all isDig = true := by decide
theorem nine_len : nine.length = 19 := rfl

theorem ofNat_toNat {c : UInt8} (h : isDig c = true) : UInt8.ofNat (48 + (c.toNat - 48)) = c := by
  have := isDig_iff.1 h
  rw [show 48 + (c.toNat - 48) = c.toNat by omega]
  exact UInt8.ofNat_toNat

/-- No leading zero: the value is positive as soon as there are two digits. -/
theorem val_pos {l : List UInt8} (hne : l ≠ []) (hd : l.all isDig = true) (hz : l.head? ≠ some 48) : 1 ≤ val 0 l := by
  cases l with
  | nil => exact absurd rfl hne
  | cons c r =>
    simp only [List.all_cons, Bool.and_eq_true] at hd
    have hc := isDig_iff.1 hd.1
    have hz' : c.toNat ≠ 48 := fun h => hz (by
      have : c = 48 := UInt8.toNat_inj.1 h
      simp [this])
    have := val_ge r (0 * 10 + (c.toNat - 48))
    simp only [val_cons]
    omega

theorem digits_val (n : Nat) : ∀ (l : List UInt8), l.length = n → l ≠ [] → l.all isDig = true → headZero l = false → decDigits (val 0 l) = l := by
  induction n with
  | zero => intro l h hne; exact absurd (List.length_eq_zero_iff.1 h) hne
  | succ n ih =>
    intro l h hne hd hz
    obtain ⟨m, c, rfl⟩ : ∃ m c, l = m ++ [c] := ⟨l.dropLast, l.getLast hne, (List.dropLast_concat_getLast hne).symm⟩
    simp only [List.all_append, List.all_cons, List.all_nil, Bool.and_true, Bool.and_eq_true] at hd
    have hc := isDig_iff.1 hd.2
    rw [val_snoc]
    by_cases hm : m = []
    · subst hm
      simp only [val_nil, List.nil_append]
      rw [decDigits_one (by omega), show 48 + (0 * 10 + (c.toNat - 48)) = 48 + (c.toNat - 48) by omega, ofNat_toNat hd.2]
    · have hz2 : m.head? ≠ some 48 := by
        intro e
        cases m with
        | nil => exact hm rfl
        | cons a r =>
          simp only [List.head?_cons, Option.some.injEq] at e
          subst e
          cases r <;> simp [headZero] at hz
      have hp := val_pos hm hd.1 hz2
      have hz3 : headZero m = false := by
        cases m with
        | nil => rfl
        | cons a r =>
          cases r with
          | nil => rfl
          | cons a2 r2 => simpa [headZero] using hz2
      rw [decDigits, dif_neg (by omega)]
      rw [show (val 0 m * 10 + (c.toNat - 48)) / 10 = val 0 m by omega, show (val 0 m * 10 + (c.toNat - 48)) % 10 = c.toNat - 48 by omega]
      rw [ih m (by simpa using h) hm hd.1 hz3, ofNat_toNat hd.2]

theorem parse_val : ∀ (l : List UInt8) (acc : Nat), l.all isDig = true → val acc l < 18446744073709551616 → parseUint10 acc l = .ok (val acc l)
  | [], _, _, _ => rfl
  | c :: r, acc, hd, hv => by
    simp only [List.all_cons, Bool.and_eq_true] at hd
    have hc := isDig_iff.1 hd.1
    simp only [val_cons] at hv
    have hg := val_ge r (acc * 10 + (c.toNat - 48))
    simp only [parseUint10, val_cons]
    rw [if_pos hc, if_neg (by omega), if_neg (by omega)]
    exact parse_val r _ hd.2 hv

theorem good_parts {l : List UInt8} (h : good l = true) : l ≠ [] ∧ l.length ≤ 19 ∧ l.all isDig = true ∧ headZero l = false ∧ tooGreat l = false := by
  simp only [good, Bool.and_eq_true, Bool.not_eq_true', decide_eq_true_eq, List.isEmpty_eq_false_iff] at h
  obtain ⟨⟨⟨⟨h1, h2⟩, h3⟩, h4⟩, h5⟩ := h
  exact ⟨h1, h2, h3, h4, h5⟩

theorem val_small {l : List UInt8} (hd : l.all isDig = true) (hl : l.length ≤ 19) (hg : tooGreat l = false) : val 0 l < 9223372036854775808 := by
  by_cases h19 : l.length = 19
  · simp only [tooGreat, h19, decide_true, Bool.true_and, Bool.not_eq_false', Bool.or_eq_true, beq_iff_eq] at hg
    have hn := nine_val
    rcases hg with hg | hg
    · have := val_less l nine 0 (by rw [h19, nine_len]) hd nine_dig hg
      omega
    · rw [hg, hn]; omega
  · have h := val_lt_pow l 0 hd
    have hp : 10 ^ l.length ≤ 10 ^ 18 := Nat.pow_le_pow_right (by decide) (by omega)
    have e18 : (10 : Nat) ^ 18 = 1000000000000000000 := by decide
    omega

theorem atoi_digits {l : List UInt8} (hne : l ≠ []) (hd : l.all isDig = true) (hv : val 0 l < 9223372036854775808) : atoiAll l = .ok ((val 0 l : Nat) : Int) := by
  cases l with
  | nil => exact absurd rfl hne
  | cons c r =>
    have hd' := hd
    simp only [List.all_cons, Bool.and_eq_true] at hd
    have hc := isDig_iff.1 hd.1
    rw [atoiAll_plain c r (by omega) (by omega)]
    have hp : parseMag (c :: r) = .ok (val 0 (c :: r)) := by
      unfold parseMag
      rw [if_neg (by simp)]
      exact parse_val _ 0 hd' (by omega)
    rw [hp]
    simp only [signless]
    rw [if_neg (by omega)]

/-- A good text spells its value, and the value is spelt so. -/
theorem good_atoi {l : List UInt8} (h : good l = true) : atoiAll l = .ok ((val 0 l : Nat) : Int) ∧ itoa ((val 0 l : Nat) : Int) = l ∧ val 0 l < 9223372036854775808 := by
  obtain ⟨h1, h2, h3, h4, h5⟩ := good_parts h
  have hv := val_small h3 h2 h5
  exact ⟨atoi_digits h1 h3 hv, by rw [itoa_nonneg]; exact digits_val l.length l rfl h1 h3 h4, hv⟩

theorem decDigits_all (u : Nat) : (decDigits u).all isDig = true ∧ val 0 (decDigits u) = u ∧ decDigits u ≠ [] ∧ (1 ≤ u → (decDigits u).head? ≠ some 48) := by
  induction u using Nat.strongRecOn with
  | _ u ih =>
    have dig : ∀ d, d < 10 → isDig (UInt8.ofNat (48 + d)) = true ∧ (UInt8.ofNat (48 + d)).toNat = 48 + d := by
      intro d hd
      have e : (UInt8.ofNat (48 + d)).toNat = 48 + d := by rw [UInt8.toNat_ofNat']; omega
      exact ⟨isDig_iff.2 (by omega), e⟩
    by_cases h : u < 10
    · rw [decDigits_one h]
      obtain ⟨d1, d2⟩ := dig u h
      refine ⟨by rw [List.all_cons, d1]; rfl, by simp only [val_cons, val_nil, d2]; omega, by simp, ?_⟩
      intro hp e
      simp only [List.head?_cons, Option.some.injEq] at e
      rw [e] at d2
      have : (48 : UInt8).toNat = 48 := rfl
      omega
    · rw [decDigits, dif_neg h]
      obtain ⟨i1, i2, i3, i4⟩ := ih (u / 10) (by omega)
      obtain ⟨d1, d2⟩ := dig (u % 10) (by omega)
      refine ⟨by rw [List.all_append, i1, List.all_cons, d1]; rfl, by rw [val_snoc, i2, d2]; omega, by simp, ?_⟩
      intro _ e
      have e2 : (decDigits (u / 10)).head? = some 48 := by
        cases hl : decDigits (u / 10) with
        | nil => exact absurd hl i3
        | cons a r => rw [hl] at e; simpa using e
      exact i4 (by omega) e2

theorem pow_le_of_nDigits : ∀ (k u : Nat), 1 ≤ k → nDigits u = k + 1 → 10 ^ k ≤ u
  | 0, _, h, _ => by omega
  | k + 1, u, _, e => by
    have hb : ¬ u < 10 := by intro hb; rw [nDigits_small hb] at e; omega
    rw [nDigits_big hb] at e
    rw [Nat.pow_succ]
    by_cases hk : k = 0
    · subst hk; simp; omega
    · have := pow_le_of_nDigits k (u / 10) (by omega) (by omega)
      omega

/-- The numeral of an int that is not negative is a good text. -/
theorem good_digits {u : Nat} (h : u < 9223372036854775808) : good (decDigits u) = true := by
  obtain ⟨i1, i2, i3, i4⟩ := decDigits_all u
  have hlen : (decDigits u).length ≤ 19 := by
    rw [decDigits_length]
    by_cases hs : u < 10
    · rw [nDigits_small hs]; omega
    · apply Classical.byContradiction
      intro hn
      have h3 := pow_le_of_nDigits (nDigits u - 1) u (by omega) (by omega)
      have hp : 10 ^ 19 ≤ 10 ^ (nDigits u - 1) := Nat.pow_le_pow_right (by decide) (by omega)
      have e19 : (10 : Nat) ^ 19 = 10000000000000000000 := by decide
      omega
  have hz : headZero (decDigits u) = false := by
    by_cases hu : u = 0
    · subst hu
      rw [decDigits_one (by omega)]
      rfl
    · have h4 := i4 (by omega)
      generalize decDigits u = l at h4
      cases l with
      | nil => rfl
      | cons a r =>
        cases r with
        | nil => rfl
        | cons a2 r2 => simpa [headZero] using h4
  have hg : tooGreat (decDigits u) = false := by
    by_cases h19 : (decDigits u).length = 19
    · simp only [tooGreat, h19, decide_true, Bool.true_and, Bool.not_eq_false', Bool.or_eq_true, beq_iff_eq]
      by_cases e : decDigits u = nine
      · exact Or.inr e
      · left
        cases hb : Op.bytesLess (decDigits u) nine with
        | true => rfl
        | false =>
          have := val_more (decDigits u) nine 0 (by rw [h19, nine_len]) i1 nine_dig hb e
          rw [i2, nine_val] at this
          omega
    · simp [tooGreat, h19]
  simp only [good, i1, hz, hg, Bool.not_false, Bool.and_true, Bool.and_eq_true, Bool.not_eq_true', decide_eq_true_eq, List.isEmpty_eq_false_iff]
  exact ⟨i3, hlen⟩

end Go.Proofs.YbulkapkiDoor
