/-
  (*Sequence).Ready, with the other law's closure.
-/
import Derived.Test.YbulkapnaReady
namespace Go.Proofs.Ybulkapna
open Go Go.RowKit

set_option maxRecDepth 100000 in
set_option maxHeartbeats 2000000 in
theorem ready8 (len cap bs : Nat) (O : Nat → Option Obj) (a : Option Addr) (rd : Nat → Bool) (nx s i : Nat) (lv : Value) (A : Nat → Bool) (w0 w : World) (hlen : len ≤ 256) (hnx : nx ≤ s) (HT : Hid (Stop A len s)) (hi : i < len) (HA : Hid (IsBools w0 a len A)) (h : Sq 8 w0.heap.size len cap bs O a 0 rd nx (enOf len s nx) nx lv w0 w) :
    Calls Yba.prog 7 #[.pointer (some ⟨w0.heap.size + 4, 0, none⟩), .int .i64 i] w fun e w' => e = .returned (.tuple #[]) ∧ ∃ nx' lv', nx ≤ nx' ∧ nx' ≤ s ∧ (∀ k, nx ≤ k → k < nx' → setB rd i k = true) ∧ (nx' = s ∨ setB rd i nx' = false) ∧ Sq 8 w0.heap.size len cap bs O a 0 (setB rd i) nx' (enOf len s nx') nx' lv' w0 w' := by
  have hsl := HT.out.le
  have s1 := h.s1
  have b0 : (i : Int) < (len : Int) := by omega
  have CS := hide (store_true ⟨w0.heap.size + 3, i, none⟩ _ w (h.rdy i hi) (h.zr i))
  have HS1 := hide (h.drew.ready i hi)
  obtain ⟨rd', hrd⟩ : ∃ r, r = setB rd i := ⟨_, rfl⟩
  rw [← hrd] at HS1
  have HRD := hide hrd
  clear hrd
  clear h
  have hnot : ∀ (x : Bool) (w : World), (Op.unary .not (.bool x)).run Yba.prog w = .ok (.bool (!x)) w := fun _ _ => rfl
  go_enter Yba.func7, Yba.ntmps7
  go_wp2_with (go_at_call 9; refine CS.out.mono ?_; rintro e W1 ⟨rfl, hW1⟩; rw [← hW1] at HS1; clear hW1)
  clear CS s1 b0
  go_loopw [4, 5] (fun _ _ wr => wr = W1) (fun _ _ _ => 0)
  case atStart => rfl
  case round =>
    subst hrel
    have CT := hide (trylock_free ⟨w0.heap.size + 4, 2, none⟩ wr HS1.out.s2 HS1.out.z2)
    have HS2 := hide (HS1.out.lock 1)
    go_wp2_with (go_at_call 10; refine CT.out.mono ?_; rintro e W2 ⟨rfl, hW2⟩; rw [← hW2] at HS2; clear hW2)
    clear CT
    go_loopw [] (fun wx => ∃ (m : Nat) (lm : Value), nx ≤ m ∧ m ≤ s ∧ Hid (∀ k, nx ≤ k → k < m → rd' k = true) ∧ Hid (Sq 8 w0.heap.size len cap bs O a 1 rd' m (enOf len s m) m lm w0 wx)) (fun wx => s - nxOf w0.heap.size wx)
    case atStart => exact ⟨nx, lv, Nat.le_refl _, hnx, fun k h1 h2 => by omega, HS2⟩
    case round =>
      clear HS1 HS2
      obtain ⟨m, lm, hm0, hm1, HD, HQ⟩ := hrel
      obtain ⟨wq, hwq⟩ : ∃ wq, wq = wr := ⟨_, rfl⟩
      have s4 := HQ.out.s4
      have s5 := HQ.out.s5
      have hmeas : nxOf w0.heap.size wr = m := by rw [nxOf, s4]; simp [intOf]
      by_cases hms : m < s
      · have hen : enOf len s m = len := if_pos hms
        rw [hen] at HQ s5
        have s0 := HQ.out.s0
        have s1 := HQ.out.s1
        have rm := HQ.out.rdy m (by omega)
        have CL := hide (fun (W : World) (hW : W.cell? ⟨w0.heap.size + 3, m, none⟩ = some (flag (rd' m))) => load_q ⟨w0.heap.size + 3, m, none⟩ _ W hW)
        have b0 : (m : Int) < (len : Int) := by omega
        have hd : decide ((m : Int) < (len : Int)) = true := by simpa using Nat.lt_of_lt_of_le hms hsl
        cases hrm : rd' m
        · rw [hrm] at CL rm
          go_wp2
          go_quiet (first
            | (go_at_call 11; refine Calls.quiet_of (CL.out _ ?_); exact rm))
          have HQ3 := hide (HQ.out.drewN nq)
          obtain ⟨W3, hW3⟩ : ∃ W3, W3 = wr.drewN nq := ⟨_, rfl⟩
          rw [← hW3] at HQ3 ⊢
          clear hW3 HQ rm CL s0 s1 s4 s5 hd hmeas hen
          have s4 := HQ3.out.s4
          have s5 := HQ3.out.s5
          go_wp2
          go_quiet (fail)
          clear s4 s5
          have HQ4 := hide (HQ3.out.drewN nq)
          obtain ⟨W4, hW4⟩ : ∃ W4, W4 = W3.drewN nq := ⟨_, rfl⟩
          rw [← hW4] at HQ4 ⊢
          clear hW4 HQ3
          have CU := hide (unlock_held ⟨w0.heap.size + 4, 2, none⟩ W4 HQ4.out.s2 HQ4.out.z2)
          have HQ5 := hide (HQ4.out.lock 0)
          clear HQ4
          have CL := hide (fun (W : World) (hW : W.cell? ⟨w0.heap.size + 3, m, none⟩ = some (flag (rd' m))) => load_q ⟨w0.heap.size + 3, m, none⟩ _ W hW)
          go_wp2_with (first
            | (go_at_call 12; refine CU.out.mono ?_; rintro e W5 ⟨rfl, hW5⟩; rw [← hW5] at HQ5; clear hW5; have s1 := HQ5.out.s1; have rm := HQ5.out.rdy m (by omega))
            | (go_at_call 11; refine (CL.out _ rm).mono ?_; rintro e W6 ⟨rfl, n6, rfl⟩))
          refine bodyPost_ret (results_none rfl _ _ _) rfl ?_
          have HF := HQ5.out.drewN n6
          rw [HRD.out] at HF hrm
          exact ⟨rfl, m, lm, hm0, hm1, by rw [← HRD.out]; exact HD.out, .inr hrm, by rw [show enOf len s m = len from if_pos hms]; exact HF⟩
        · rw [hrm] at CL rm
          go_wp2
          go_quiet (first
            | (go_at_call 11; refine Calls.quiet_of (CL.out _ ?_); exact rm))
          have HQ3 := hide (HQ.out.drewN nq)
          obtain ⟨W3, hW3⟩ : ∃ W3, W3 = wr.drewN nq := ⟨_, rfl⟩
          rw [← hW3] at HQ3 ⊢
          clear hW3 HQ rm CL s0 s1 s4 s5 hd hen
          have s4 := HQ3.out.s4
          have s0 := HQ3.out.s0
          have CSt := hide (step8 len cap bs O a 1 rd' m len lm A w0 W3.drew hlen (by omega) HA HQ3.out.drew)
          have HN := hide (HD.out)
          cases hA : A m
          · have HE : Hid (s = m + 1) := hide (HT.out.no hms hA)
            rw [hA] at CSt
            clear hA
            go_wp2
            go_region_with (first
              | (go_at_call 8; refine CSt.out.mono ?_; rintro e W4 ⟨rfl, lm', hS4⟩; have HQ4 := hide hS4; clear hS4 CSt HQ3 s4 s0))
            all_goals
              have s4 := HQ4.out.s4
              have s5 := HQ4.out.s5
              have z4 := HQ4.out.z4
              have z5 := HQ4.out.z5
              have HQ5 := hide ((HQ4.out.last (m + 1)).next (m + 1))
              clear HQ4
              rw [show ((m + 1 : Nat) : Int) = (m : Int) + 1 by omega] at HQ5
              go_wp2
              have he := HE.out
              exact ⟨⟨m + 1, lm', by omega, by omega, hide (low_succ HD.out hrm), hide (by rw [show enOf len s (m + 1) = m + 1 from (if_neg (by omega)).trans he]; exact HQ5.out)⟩, by rw [HQ5.out.nxOf, hmeas]; omega⟩
          · have HE : Hid (enOf len s (m + 1) = len) := hide (HT.out.yes hms hA)
            rw [hA] at CSt
            clear hA
            go_wp2
            go_region_with (first
              | (go_at_call 8; refine CSt.out.mono ?_; rintro e W4 ⟨rfl, lm', hS4⟩; have HQ4 := hide hS4; clear hS4 CSt HQ3 s4 s0))
            all_goals
              have s4 := HQ4.out.s4
              have z4 := HQ4.out.z4
              have HQ5 := hide (HQ4.out.next (m + 1))
              clear HQ4
              rw [show ((m + 1 : Nat) : Int) = (m : Int) + 1 by omega] at HQ5
              go_wp2
              exact ⟨⟨m + 1, lm', by omega, by omega, hide (low_succ HD.out hrm), hide (by rw [HE.out]; exact HQ5.out)⟩, by rw [HQ5.out.nxOf, hmeas]; omega⟩
      · obtain rfl : m = s := by omega
        have hen : enOf len m m = m := if_neg (Nat.lt_irrefl _)
        rw [hen] at HQ s5
        have hd : decide ((m : Int) < (m : Int)) = false := by simp
        go_wp2
        go_quiet (fail)
        have HQ3 := hide (HQ.out.drewN nq)
        obtain ⟨W3, hW3⟩ : ∃ W3, W3 = wr.drewN nq := ⟨_, rfl⟩
        rw [← hW3] at HQ3 ⊢
        clear hW3 HQ s4 s5 hd hmeas
        have s4 := HQ3.out.s4
        have s5 := HQ3.out.s5
        go_wp2
        go_quiet (fail)
        clear s4 s5
        have HQ4 := hide (HQ3.out.drewN nq)
        obtain ⟨W4, hW4⟩ : ∃ W4, W4 = W3.drewN nq := ⟨_, rfl⟩
        rw [← hW4] at HQ4 ⊢
        clear hW4 HQ3
        have CU := hide (unlock_held ⟨w0.heap.size + 4, 2, none⟩ W4 HQ4.out.s2 HQ4.out.z2)
        have HQ5 := hide (HQ4.out.lock 0)
        clear HQ4
        go_wp2_with (go_at_call 12; refine CU.out.mono ?_; rintro e W5 ⟨rfl, hW5⟩; rw [← hW5] at HQ5; clear hW5)
        refine bodyPost_ret (results_none rfl _ _ _) rfl ?_
        have HF := HQ5.out
        rw [HRD.out] at HF
        exact ⟨rfl, m, lm, hm0, hm1, by rw [← HRD.out]; exact HD.out, .inl rfl, by rw [hen]; exact HF⟩
end Go.Proofs.Ybulkapna
