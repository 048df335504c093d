/-
  The library functions that Sequence calls, in the run of one goroutine: atomic.Bool's Store and Load, sync.Mutex's TryLock and Unlock (after the guide's worked Lazy and Locked).
-/
import Derived.Test.YbulkapnaProg
import Derived.Tactics
import Derived.Tactics2
import Derived.Laws.Pointers
import Derived.Laws.LoneSync
import Derived.RegionTactic
import Derived.RegionCalls
import Derived.KernelRfl
namespace Go.Proofs.Ybulkapna
open Go

theorem disable (w : World) : (callFunc 18 #[]).run Yba.prog w = .ok (.value (.tuple #[])) w := run_call_mark0 Yba.func18 (by kernel_rfl) (by kernel_rfl) (by kernel_rfl) .disable (by kernel_rfl) w
theorem enable (w : World) : (callFunc 19 #[]).run Yba.prog w = .ok (.value (.tuple #[])) w := run_call_mark0 Yba.func19 (by kernel_rfl) (by kernel_rfl) (by kernel_rfl) .enable (by kernel_rfl) w
theorem acquire (a : Addr) (w : World) : (callFunc 21 #[.pointer (some a)]).run Yba.prog w = .ok (.value (.tuple #[])) w := run_call_marked Yba.func21 (by kernel_rfl) (by kernel_rfl) (by kernel_rfl) .acquire (by kernel_rfl) a w
theorem releaseMerge (a : Addr) (w : World) : (callFunc 22 #[.pointer (some a)]).run Yba.prog w = .ok (.value (.tuple #[])) w := run_call_marked Yba.func22 (by kernel_rfl) (by kernel_rfl) (by kernel_rfl) .releaseMerge (by kernel_rfl) a w

/-- What the conversion of a pointer to the lock to the bare pointer does: read off the model by the kernel. -/
theorem conv_form (a : Addr) (w : World) : (convert 52 56 (.pointer (some a))).run Yba.prog w = (do
    let s ← Conv.seenAt a
    let nothing := match ← cellsIn s.block with
      | some cells => s.off ≥ cells && s.spot.isNone
      | none => false
    if (← sizeOf 36) = 0 || nothing then pure (.pointer (some ⟨← newObj (.view s 36), 0, none⟩)) else
    pure (.pointer (some s)) : Sem Value).run Yba.prog w := rfl
theorem conv_lock {a : Addr} {v : Value} {w : World} (hc : w.cell? a = some v) : (convert 52 56 (.pointer (some a))).run Yba.prog w = .ok (.pointer (some a)) w := by
  obtain ⟨e, n, hsh, hlt, hsp⟩ := World.shape?_of_cell? hc
  have hsz : (Yba.prog.info? 36).map (fun i => decide (i.size = 0)) = some false := by kernel_rfl
  obtain ⟨i, hi, hz0⟩ := Option.map_eq_some_iff.1 hsz
  have hz : i.size ≠ 0 := by simpa using hz0
  have hge : ¬ (n ≤ a.off) := by omega
  rw [conv_form]
  simp [Conv.seenAt, viewAt, cellsIn, sizeOf, typeInfo, hi, hz, hsh, hge, Result.andThen]

/-- atomic.Bool's Store(true): the cell holds 1. -/
theorem store_true (a : Addr) (x : Value) (w : World) (hc : w.cell? a = some x) (hz : w.frozen? a = false) :
    Calls Yba.prog 9 #[.pointer (some a), .bool true] w fun e w' => e = .returned (.tuple #[]) ∧ w' = w.drew.setCell a (.int .u32 1) := by
  have hc' : w.drew.cell? a = some x := by go_simp
  have hz' : w.drew.frozen? a = false := by go_simp
  have hst := run_call_store (P := Yba.prog) Yba.func13 (by kernel_rfl) (by kernel_rfl) (by kernel_rfl) (by kernel_rfl) (k := .u32) (y := 1) hc' hz'
  go_enter Yba.func9, Yba.ntmps9
  go_wp2
  go_region_calls
  all_goals (go_end0; exact ⟨rfl, rfl⟩)

/-- atomic.Bool's Load. -/
theorem load_bool (a : Addr) (d : Int) (w : World) (hc : w.cell? a = some (.int .u32 d)) :
    Calls Yba.prog 11 #[.pointer (some a)] w fun e w' => e = .returned (.bool (d != 0)) ∧ w' = w := by
  have hl := run_call_load (P := Yba.prog) Yba.func16 (by kernel_rfl) (by kernel_rfl) (by kernel_rfl) .u32 (by kernel_rfl) hc
  go_enter Yba.func11, Yba.ntmps11
  go_wp2
  go_ret
  exact ⟨rfl, rfl⟩

/-- sync.Mutex's TryLock, the lock free: true, and it is held. -/
theorem trylock_free (a : Addr) (w : World) (hc : w.cell? a = some (.int .i32 0)) (hz : w.frozen? a = false) :
    Calls Yba.prog 10 #[.pointer (some a)] w fun e w' => e = .returned (.bool true) ∧ w' = w.setCell a (.int .i32 1) := by
  have hd := disable
  have he := enable
  have ha := acquire
  have hcas := run_call_cas_hit (P := Yba.prog) Yba.func20 (by kernel_rfl) (by kernel_rfl) (by kernel_rfl) .i32 (by kernel_rfl) (y := 1) hc hz
  have hc' : (w.setCell a (.int .i32 1)).cell? a = some (.int .i32 1) := World.cell?_setCell_same w a _ hc
  have hcv := conv_lock hc'
  have hnot : ∀ (x : Bool) (w : World), (Op.unary .not (.bool x)).run Yba.prog w = .ok (.bool (!x)) w := fun _ _ => rfl
  go_enter Yba.func10, Yba.ntmps10
  go_wp2
  go_ret
  exact ⟨rfl, rfl⟩

/-- sync.Mutex's Unlock, the lock held. -/
theorem unlock_held (a : Addr) (w : World) (hc : w.cell? a = some (.int .i32 1)) (hz : w.frozen? a = false) :
    Calls Yba.prog 12 #[.pointer (some a)] w fun e w' => e = .returned (.tuple #[]) ∧ w' = w.setCell a (.int .i32 0) := by
  have hd := disable
  have he := enable
  have hr := releaseMerge
  have hadd := run_call_add (P := Yba.prog) Yba.func23 (by kernel_rfl) (by kernel_rfl) (by kernel_rfl) .i32 (by kernel_rfl) (y := -1) (s := 0) hc hz (by simp [go_sem]; rfl)
  have hcv := conv_lock hc
  go_enter Yba.func12, Yba.ntmps12
  go_wp2
  go_end0
  go_wp2
  go_end0
  exact ⟨rfl, rfl⟩
end Go.Proofs.Ybulkapna
