/-
  The contracts of slices.Sorted(maps.Keys(m)) that the shelf proves once over any program, laid at this dump by the kit's tools (lay-iter, lay-plain), and their plain forms ('Calls').
-/
import Derived.Shelf.SlGeneric
import Derived.Shelf.SlIter.Nil
import Derived.Shelf.SortM.Plain
import Derived.Shelf.SortM.SortNone
import Derived.Ground.GgzProg
import Derived.Ground.SlgmProg
import Derived.Test.YbulkapmmProg
set_option maxRecDepth 100000
namespace Go.Proofs
open Go.Shelf
def Yba.keys8_ren : Go.Shelf.Ren := ⟨fun | 7 => 8 | 10 => 11 | n => n, fun | 23 => 32 | 26 => 9 | 3 => 35 | 28 => 43 | 0 => 0 | 27 => 42 | 33 => 46 | 4 => 4 | n => n, fun | n => n⟩
theorem Yba.keys8 : Go.Proofs.SlLaysZ.n7 Yba.prog Yba.keys8_ren := {
  mixed := by kernel_rfl
  f7 := ⟨Yba.f8.name, by decide, Yba.func8.trans (congrArg some (by kernel_rfl))⟩
  f10 := ⟨Yba.f11.name, by decide, Yba.func11.trans (congrArg some (by kernel_rfl))⟩
  t0 := Yba.underlying0
  a0 := Yba.isAgg0
  z0 := Yba.sizeOf0
  v0 := Yba.zeroValue0
  t4 := Yba.underlying4
  a4 := Yba.isAgg4
  z4 := Yba.sizeOf4
  v4 := Yba.zeroValue4
  t23 := Yba.underlying32
  a23 := Yba.isAgg32
  z23 := Yba.sizeOf32
  v23 := Yba.zeroValue32
  t26 := Yba.underlying9
  a26 := Yba.isAgg9
  z26 := Yba.sizeOf9
  v26 := Yba.zeroValue9
  t27 := Yba.underlying42
  a27 := Yba.isAgg42
  z27 := Yba.sizeOf42
  v27 := Yba.zeroValue42
  t28 := Yba.underlying43
  a28 := Yba.isAgg43
  z28 := Yba.sizeOf43
  v28 := Yba.zeroValue43
  t33 := Yba.underlying46
  a33 := Yba.isAgg46
  z33 := Yba.sizeOf46
  v33 := Yba.zeroValue46 }
def Yba.sorted7_ren : Go.Shelf.Ren := ⟨fun | 6 => 7 | 8 => 9 | 9 => 10 | 11 => 12 | 13 => 14 | 12 => 13 | 23 => 24 | 24 => 25 | 14 => 15 | 15 => 16 | 16 => 17 | 17 => 18 | 18 => 19 | 19 => 20 | 20 => 21 | 21 => 22 | 22 => 23 | 25 => 26 | 26 => 27 | 27 => 28 | 28 => 29 | 29 => 30 | 30 => 31 | 31 => 32 | n => n, fun | 26 => 9 | 28 => 43 | 24 => 30 | 0 => 0 | 3 => 3 | 37 => 50 | 48 => 61 | 50 => 63 | 4 => 4 | 40 => 53 | 39 => 52 | 45 => 58 | 5 => 5 | 9 => 9 | 51 => 64 | 55 => 68 | 57 => 70 | 58 => 71 | 33 => 46 | n => n, fun | n => n⟩
theorem Yba.sorted7 : Go.Proofs.SlLaysZ.n6 Yba.prog Yba.sorted7_ren := {
  mixed := by kernel_rfl
  f6 := ⟨Yba.f7.name, by decide, Yba.func7.trans (congrArg some (by kernel_rfl))⟩
  f8 := ⟨Yba.f9.name, by decide, Yba.func9.trans (congrArg some (by kernel_rfl))⟩
  f11 := ⟨Yba.f12.name, by decide, Yba.func12.trans (congrArg some (by kernel_rfl))⟩
  t0 := Yba.underlying0
  a0 := Yba.isAgg0
  z0 := Yba.sizeOf0
  v0 := Yba.zeroValue0
  t24 := Yba.underlying30
  a24 := Yba.isAgg30
  z24 := Yba.sizeOf30
  v24 := Yba.zeroValue30
  t26 := Yba.underlying9
  a26 := Yba.isAgg9
  z26 := Yba.sizeOf9
  v26 := Yba.zeroValue9
  t28 := Yba.underlying43
  a28 := Yba.isAgg43
  z28 := Yba.sizeOf43
  v28 := Yba.zeroValue43
  i26 := by kernel_rfl }
def Yba.sort10_ren : Go.Shelf.Ren := ⟨fun | 6 => 10 | 8 => 14 | 9 => 13 | 19 => 24 | 20 => 25 | 21 => 15 | 22 => 16 | 23 => 17 | 24 => 18 | 25 => 19 | 26 => 20 | 27 => 21 | 28 => 22 | 29 => 23 | 36 => 26 | 31 => 27 | 32 => 28 | 37 => 29 | 38 => 30 | 39 => 31 | 41 => 32 | n => n, fun | 27 => 30 | 29 => 9 | 3 => 3 | 32 => 50 | 26 => 30 | 0 => 0 | 44 => 61 | 46 => 63 | 4 => 4 | 36 => 53 | 35 => 52 | 41 => 58 | 5 => 5 | 9 => 9 | 53 => 64 | 57 => 68 | 63 => 70 | 64 => 71 | n => n, fun | n => n⟩
theorem Yba.sort10 : Go.Proofs.SlLaysM.n6 Yba.prog Yba.sort10_ren := {
  mixed := by kernel_rfl
  f6 := ⟨Yba.f10.name, by decide, Yba.func10.trans (congrArg some (by kernel_rfl))⟩
  f8 := Yba.func14.trans (congrArg some (by kernel_rfl))
  f9 := ⟨Yba.f13.name, by decide, Yba.func13.trans (congrArg some (by kernel_rfl))⟩
  f19 := Yba.func24.trans (congrArg some (by kernel_rfl))
  f20 := Yba.func25.trans (congrArg some (by kernel_rfl))
  f21 := ⟨Yba.f15.name, by decide, Yba.func15.trans (congrArg some (by kernel_rfl))⟩
  f22 := ⟨Yba.f16.name, by decide, Yba.func16.trans (congrArg some (by kernel_rfl))⟩
  f23 := ⟨Yba.f17.name, by decide, Yba.func17.trans (congrArg some (by kernel_rfl))⟩
  f24 := ⟨Yba.f18.name, by decide, Yba.func18.trans (congrArg some (by kernel_rfl))⟩
  f25 := ⟨Yba.f19.name, by decide, Yba.func19.trans (congrArg some (by kernel_rfl))⟩
  f26 := ⟨Yba.f20.name, by decide, Yba.func20.trans (congrArg some (by kernel_rfl))⟩
  f27 := ⟨Yba.f21.name, by decide, Yba.func21.trans (congrArg some (by kernel_rfl))⟩
  f28 := ⟨Yba.f22.name, by decide, Yba.func22.trans (congrArg some (by kernel_rfl))⟩
  f29 := ⟨Yba.f23.name, by decide, Yba.func23.trans (congrArg some (by kernel_rfl))⟩
  f31 := Yba.func27.trans (congrArg some (by kernel_rfl))
  f32 := Yba.func28.trans (congrArg some (by kernel_rfl))
  f36 := ⟨Yba.f26.name, by decide, Yba.func26.trans (congrArg some (by kernel_rfl))⟩
  f37 := ⟨Yba.f29.name, by decide, Yba.func29.trans (congrArg some (by kernel_rfl))⟩
  f38 := ⟨Yba.f30.name, by decide, Yba.func30.trans (congrArg some (by kernel_rfl))⟩
  f39 := ⟨Yba.f31.name, by decide, Yba.func31.trans (congrArg some (by kernel_rfl))⟩
  f41 := ⟨Yba.f32.name, by decide, Yba.func32.trans (congrArg some (by kernel_rfl))⟩
  t0 := Yba.underlying0
  a0 := Yba.isAgg0
  z0 := Yba.sizeOf0
  v0 := Yba.zeroValue0
  t3 := Yba.underlying3
  a3 := Yba.isAgg3
  z3 := Yba.sizeOf3
  v3 := Yba.zeroValue3
  t4 := Yba.underlying4
  a4 := Yba.isAgg4
  z4 := Yba.sizeOf4
  v4 := Yba.zeroValue4
  t5 := Yba.underlying5
  a5 := Yba.isAgg5
  z5 := Yba.sizeOf5
  v5 := Yba.zeroValue5
  t9 := Yba.underlying9
  a9 := Yba.isAgg9
  z9 := Yba.sizeOf9
  v9 := Yba.zeroValue9
  t26 := Yba.underlying30
  a26 := Yba.isAgg30
  z26 := Yba.sizeOf30
  v26 := Yba.zeroValue30
  t27 := Yba.underlying30
  a27 := Yba.isAgg30
  z27 := Yba.sizeOf30
  v27 := Yba.zeroValue30
  t29 := Yba.underlying9
  a29 := Yba.isAgg9
  z29 := Yba.sizeOf9
  v29 := Yba.zeroValue9
  t32 := Yba.underlying50
  a32 := Yba.isAgg50
  z32 := Yba.sizeOf50
  v32 := Yba.zeroValue50
  t35 := Yba.underlying52
  a35 := Yba.isAgg52
  z35 := Yba.sizeOf52
  v35 := Yba.zeroValue52
  t36 := Yba.underlying53
  a36 := Yba.isAgg53
  z36 := Yba.sizeOf53
  v36 := Yba.zeroValue53
  t41 := Yba.underlying58
  a41 := Yba.isAgg58
  z41 := Yba.sizeOf58
  v41 := Yba.zeroValue58
  t44 := Yba.underlying61
  a44 := Yba.isAgg61
  z44 := Yba.sizeOf61
  v44 := Yba.zeroValue61
  t46 := Yba.underlying63
  a46 := Yba.isAgg63
  z46 := Yba.sizeOf63
  v46 := Yba.zeroValue63
  t53 := Yba.underlying64
  a53 := Yba.isAgg64
  z53 := Yba.sizeOf64
  v53 := Yba.zeroValue64
  t57 := Yba.underlying68
  a57 := Yba.isAgg68
  z57 := Yba.sizeOf68
  v57 := Yba.zeroValue68
  t63 := Yba.underlying70
  a63 := Yba.isAgg70
  z63 := Yba.sizeOf70
  v63 := Yba.zeroValue70
  t64 := Yba.underlying71
  a64 := Yba.isAgg71
  z64 := Yba.sizeOf71
  v64 := Yba.zeroValue71 }

section
open Go.RowKit Go.Maps Go.Sort Go.Shelf
/-- slices.Sort's two contracts at this dump, at the fence that asks nothing. -/
theorem Yba.sorts7 (m : Nat) : AnyZ.SortsIn Yba.prog Yba.sorted7_ren Fence.wide m :=
  ⟨fun blk off cap ss W hH hblk hsz => callsIn_wide.2 (AnyM.slices_Sort_string Yba.sort10 blk off cap ss W hH hblk hsz),
   fun p cap W => callsIn_wide.2 (AnyM.slices_Sort_string_none Yba.sort10 p cap W)⟩

/-- **maps.Keys, at whatever map, the nil one too:** a function value over ONE NEW BLOCK, which holds the map. -/
theorem Yba.maps_Keys_8 (mb : Option Nat) (W : World) : CallsIn Fence.wide 5 Yba.prog 8 #[.map mb] W fun e w' => e = .returned (.func (.func 11) #[] #[.pointer (some ⟨W.heap.size, 0, none⟩)]) ∧ w' = W.alloc (.cells #[.map mb] 32) :=
  AnyZ.keys_in Yba.keys8 Fence.wide 5 trivial rfl mb W

set_option maxHeartbeats 1000000 in
/-- **slices.Sorted[string] AT WHAT maps.Keys HANDED BACK FOR A MAP THAT IS NOT nil** ('w': the world AHEAD of maps.Keys' call): A NEW SLICE THAT HOLDS THE MAP's KEYS, SORTED; nil just where it has none; nothing that lay before has turned. -/
theorem Yba.slices_Sorted_keys_7_8 {H : Type} (b nn : Nat) (D0 : DataW H) (R : Value → Option (DataW H × List MemPlace)) (w : World) (hown : w.ownsMap Yba.prog 9 R b nn D0) (hmax : Maps.size D0 ≤ maxLen) (hbytes : Maps.size D0 * 16 ≤ 140737488355328) :
    CallsIn Fence.wide 5 Yba.prog 7 #[.func (.func 11) #[] #[.pointer (some ⟨w.heap.size, 0, none⟩)]] (w.alloc (.cells #[.map (some b)] 32)) fun e w' => ∃ (v : Value) (ss : List (List UInt8)), e = .returned v ∧ ss.Perm (strKeys D0) ∧
      w'.ownsRow (w.alloc (.cells #[.map (some b)] 32)).heap.size 9 1 v ss.length ((ss.mergeSort (fun x y => decide (x ≤ y))).map encStr) ∧ (v = .slice none 0 0 ↔ ss = []) ∧ Below (w.alloc (.cells #[.map (some b)] 32)).heap.size (w.alloc (.cells #[.map (some b)] 32)) w' := by
  have hbl := hown.lt
  have hseq : SeqGives Fence.wide 2 Yba.prog 11 #[.pointer (some ⟨w.heap.size, 0, none⟩)] encStr (fun ss => ss.Perm (strKeys D0)) (Maps.size D0) (w.alloc (.cells #[.map (some b)] 32)) :=
    AnyZ.keys_gives (ρ := Yba.keys8_ren) { Yba.keys8 with } Fence.wide _ trivial rfl (by omega) w.heap.size b nn D0 _ (by simp) (by simp) (by
      obtain ⟨es, clock, hb, Ft, hs, hD⟩ := hown
      exact ⟨es, clock, (Below.heap_alloc _ _ b hbl).trans hb, Ft, hs, hD⟩)
  exact AnyZ.sorted_in Yba.sorted7 Fence.wide 5 trivial trivial trivial trivial rfl (by omega) (Yba.sorts7 _) (enters_of Yba.func10 (by kernel_rfl) rfl) 11 #[.pointer (some ⟨w.heap.size, 0, none⟩)] trivial (enters_of Yba.func11 (by kernel_rfl) rfl) _ _ hmax hbytes _ hseq

set_option maxHeartbeats 1000000 in
/-- **.. AND FOR THE nil MAP: nil.** -/
theorem Yba.slices_Sorted_keys_nil_7_8 (w : World) :
    CallsIn Fence.wide 5 Yba.prog 7 #[.func (.func 11) #[] #[.pointer (some ⟨w.heap.size, 0, none⟩)]] (w.alloc (.cells #[.map none] 32)) fun e w' => ∃ (v : Value) (ss : List (List UInt8)), e = .returned v ∧ ss = [] ∧
      w'.ownsRow (w.alloc (.cells #[.map none] 32)).heap.size 9 1 v ss.length ((ss.mergeSort (fun x y => decide (x ≤ y))).map encStr) ∧ (v = .slice none 0 0 ↔ ss = []) ∧ Below (w.alloc (.cells #[.map none] 32)).heap.size (w.alloc (.cells #[.map none] 32)) w' := by
  have hseq : SeqGives Fence.wide 2 Yba.prog 11 #[.pointer (some ⟨w.heap.size, 0, none⟩)] encStr (fun ss : List (List UInt8) => ss = []) 0 (w.alloc (.cells #[.map none] 32)) :=
    AnyZ.keys_gives_nil (ρ := Yba.keys8_ren) { Yba.keys8 with } Fence.wide _ trivial rfl w.heap.size _ (by simp) (by simp)
  exact AnyZ.sorted_in Yba.sorted7 Fence.wide 5 trivial trivial trivial trivial rfl (by omega) (Yba.sorts7 _) (enters_of Yba.func10 (by kernel_rfl) rfl) 11 #[.pointer (some ⟨w.heap.size, 0, none⟩)] trivial (enters_of Yba.func11 (by kernel_rfl) rfl) _ 0 (Nat.zero_le _) (by omega) _ hseq


/-- The same as plain contracts. -/
theorem Yba.keys_c (mb : Option Nat) (W : World) : Calls Yba.prog 8 #[.map mb] W fun e w' => e = .returned (.func (.func 11) #[] #[.pointer (some ⟨W.heap.size, 0, none⟩)]) ∧ w' = W.alloc (.cells #[.map mb] 32) :=
  callsIn_wide.1 (Yba.maps_Keys_8 mb W)
theorem Yba.sorted_c {H : Type} (b nn : Nat) (D0 : DataW H) (R : Value → Option (DataW H × List MemPlace)) (w : World) (hown : w.ownsMap Yba.prog 9 R b nn D0) (hmax : Maps.size D0 ≤ maxLen) (hbytes : Maps.size D0 * 16 ≤ 140737488355328) :
    Calls Yba.prog 7 #[.func (.func 11) #[] #[.pointer (some ⟨w.heap.size, 0, none⟩)]] (w.alloc (.cells #[.map (some b)] 32)) fun e w' => ∃ (v : Value) (ss : List (List UInt8)), e = .returned v ∧ ss.Perm (strKeys D0) ∧
      w'.ownsRow (w.alloc (.cells #[.map (some b)] 32)).heap.size 9 1 v ss.length ((ss.mergeSort (fun x y => decide (x ≤ y))).map encStr) ∧ (v = .slice none 0 0 ↔ ss = []) ∧ Below (w.alloc (.cells #[.map (some b)] 32)).heap.size (w.alloc (.cells #[.map (some b)] 32)) w' :=
  callsIn_wide.1 (Yba.slices_Sorted_keys_7_8 b nn D0 R w hown hmax hbytes)
theorem Yba.sorted_nil_c (w : World) :
    Calls Yba.prog 7 #[.func (.func 11) #[] #[.pointer (some ⟨w.heap.size, 0, none⟩)]] (w.alloc (.cells #[.map none] 32)) fun e w' => e = .returned (.slice none 0 0) ∧ Below (w.alloc (.cells #[.map none] 32)).heap.size (w.alloc (.cells #[.map none] 32)) w' :=
  (callsIn_wide.1 (Yba.slices_Sorted_keys_nil_7_8 w)).mono (by
    rintro e w' ⟨v, ss, rfl, hs, -, hn, hb⟩
    exact ⟨by rw [hn.2 hs], hb⟩)
end
end Go.Proofs
