/-
  DERIVED. MADE BY PROGRAM (lay-iter.mjs, its layings in plain words by lay-plain.mjs) off qxb6002353a.cut.gsa: THE SHELF's CONTRACTS ON 'slices.Sorted(maps.Keys(m))' LAID AT THIS DUMP: 2 map types. NO WALK OF THE LIBRARY's TEXT: each is one application of a contract over any P and ρ (Derived/Shelf/SlIter/, Derived/Shelf/SortM/).
-/
import Derived.Shelf.SlIter.Nil
import Derived.Shelf.SortM.Plain
import Derived.Shelf.SortM.SortNone
import Derived.Ground.GgzProg
import Derived.Ground.SlgmProg
import Derived.Test.Qxb6002353aProg
set_option maxRecDepth 100000
namespace Go.Proofs
open Go.RowKit Go.Maps Go.Sort Go.Shelf

def Try.keys44_ren : Go.Shelf.Ren := ⟨fun | 7 => 44 | 10 => 69 | n => n, fun | 23 => 62 | 26 => 9 | 3 => 4 | 28 => 88 | 0 => 0 | 27 => 87 | 33 => 105 | 4 => 4 | n => n, fun | n => n⟩
theorem Try.keys44 : Go.Proofs.SlLaysZ.n7 Try.prog Try.keys44_ren := {
  mixed := by kernel_rfl
  f7 := ⟨Try.f44.name, by decide, Try.func44.trans (congrArg some (by kernel_rfl))⟩
  f10 := ⟨Try.f69.name, by decide, Try.func69.trans (congrArg some (by kernel_rfl))⟩
  t0 := Try.underlying0
  a0 := Try.isAgg0
  z0 := Try.sizeOf0
  v0 := Try.zeroValue0
  t4 := Try.underlying4
  a4 := Try.isAgg4
  z4 := Try.sizeOf4
  v4 := Try.zeroValue4
  t23 := Try.underlying62
  a23 := Try.isAgg62
  z23 := Try.sizeOf62
  v23 := Try.zeroValue62
  t26 := Try.underlying9
  a26 := Try.isAgg9
  z26 := Try.sizeOf9
  v26 := Try.zeroValue9
  t27 := Try.underlying87
  a27 := Try.isAgg87
  z27 := Try.sizeOf87
  v27 := Try.zeroValue87
  t28 := Try.underlying88
  a28 := Try.isAgg88
  z28 := Try.sizeOf88
  v28 := Try.zeroValue88
  t33 := Try.underlying105
  a33 := Try.isAgg105
  z33 := Try.sizeOf105
  v33 := Try.zeroValue105 }
def Try.sorted43_ren : Go.Shelf.Ren := ⟨fun | 6 => 43 | 8 => 68 | 9 => 27 | 11 => 83 | 13 => 42 | 12 => 41 | 23 => 66 | 24 => 67 | 14 => 58 | 15 => 59 | 16 => 60 | 17 => 61 | 18 => 62 | 19 => 63 | 20 => 56 | 21 => 64 | 22 => 65 | 25 => 78 | 26 => 79 | 27 => 80 | 28 => 81 | 29 => 82 | 30 => 77 | 31 => 88 | n => n, fun | 26 => 9 | 28 => 88 | 24 => 33 | 0 => 0 | 3 => 3 | 37 => 29 | 48 => 114 | 50 => 40 | 4 => 4 | 40 => 108 | 39 => 107 | 45 => 81 | 5 => 5 | 9 => 9 | 51 => 126 | 55 => 129 | 57 => 136 | 58 => 137 | 33 => 105 | n => n, fun | n => n⟩
theorem Try.sorted43 : Go.Proofs.SlLaysZ.n6 Try.prog Try.sorted43_ren := {
  mixed := by kernel_rfl
  f6 := ⟨Try.f43.name, by decide, Try.func43.trans (congrArg some (by kernel_rfl))⟩
  f8 := ⟨Try.f68.name, by decide, Try.func68.trans (congrArg some (by kernel_rfl))⟩
  f11 := ⟨Try.f83.name, by decide, Try.func83.trans (congrArg some (by kernel_rfl))⟩
  t0 := Try.underlying0
  a0 := Try.isAgg0
  z0 := Try.sizeOf0
  v0 := Try.zeroValue0
  t24 := Try.underlying33
  a24 := Try.isAgg33
  z24 := Try.sizeOf33
  v24 := Try.zeroValue33
  t26 := Try.underlying9
  a26 := Try.isAgg9
  z26 := Try.sizeOf9
  v26 := Try.zeroValue9
  t28 := Try.underlying88
  a28 := Try.isAgg88
  z28 := Try.sizeOf88
  v28 := Try.zeroValue88
  i26 := by kernel_rfl }
def Try.sort27_ren : Go.Shelf.Ren := ⟨fun | 6 => 27 | 8 => 42 | 9 => 41 | 19 => 66 | 20 => 67 | 21 => 58 | 22 => 59 | 23 => 60 | 24 => 61 | 25 => 62 | 26 => 63 | 27 => 56 | 28 => 64 | 29 => 65 | 36 => 78 | 31 => 79 | 32 => 80 | 37 => 81 | 38 => 82 | 39 => 77 | 41 => 88 | n => n, fun | 27 => 33 | 29 => 9 | 3 => 3 | 32 => 29 | 26 => 33 | 0 => 0 | 44 => 114 | 46 => 40 | 4 => 4 | 36 => 108 | 35 => 107 | 41 => 81 | 5 => 5 | 9 => 9 | 53 => 126 | 57 => 129 | 63 => 136 | 64 => 137 | n => n, fun | n => n⟩
theorem Try.sort27 : Go.Proofs.SlLaysM.n6 Try.prog Try.sort27_ren := {
  mixed := by kernel_rfl
  f6 := ⟨Try.f27.name, by decide, Try.func27.trans (congrArg some (by kernel_rfl))⟩
  f8 := Try.func42.trans (congrArg some (by kernel_rfl))
  f9 := ⟨Try.f41.name, by decide, Try.func41.trans (congrArg some (by kernel_rfl))⟩
  f19 := Try.func66.trans (congrArg some (by kernel_rfl))
  f20 := Try.func67.trans (congrArg some (by kernel_rfl))
  f21 := ⟨Try.f58.name, by decide, Try.func58.trans (congrArg some (by kernel_rfl))⟩
  f22 := ⟨Try.f59.name, by decide, Try.func59.trans (congrArg some (by kernel_rfl))⟩
  f23 := ⟨Try.f60.name, by decide, Try.func60.trans (congrArg some (by kernel_rfl))⟩
  f24 := ⟨Try.f61.name, by decide, Try.func61.trans (congrArg some (by kernel_rfl))⟩
  f25 := ⟨Try.f62.name, by decide, Try.func62.trans (congrArg some (by kernel_rfl))⟩
  f26 := ⟨Try.f63.name, by decide, Try.func63.trans (congrArg some (by kernel_rfl))⟩
  f27 := ⟨Try.f56.name, by decide, Try.func56.trans (congrArg some (by kernel_rfl))⟩
  f28 := ⟨Try.f64.name, by decide, Try.func64.trans (congrArg some (by kernel_rfl))⟩
  f29 := ⟨Try.f65.name, by decide, Try.func65.trans (congrArg some (by kernel_rfl))⟩
  f31 := Try.func79.trans (congrArg some (by kernel_rfl))
  f32 := Try.func80.trans (congrArg some (by kernel_rfl))
  f36 := ⟨Try.f78.name, by decide, Try.func78.trans (congrArg some (by kernel_rfl))⟩
  f37 := ⟨Try.f81.name, by decide, Try.func81.trans (congrArg some (by kernel_rfl))⟩
  f38 := ⟨Try.f82.name, by decide, Try.func82.trans (congrArg some (by kernel_rfl))⟩
  f39 := ⟨Try.f77.name, by decide, Try.func77.trans (congrArg some (by kernel_rfl))⟩
  f41 := ⟨Try.f88.name, by decide, Try.func88.trans (congrArg some (by kernel_rfl))⟩
  t0 := Try.underlying0
  a0 := Try.isAgg0
  z0 := Try.sizeOf0
  v0 := Try.zeroValue0
  t3 := Try.underlying3
  a3 := Try.isAgg3
  z3 := Try.sizeOf3
  v3 := Try.zeroValue3
  t4 := Try.underlying4
  a4 := Try.isAgg4
  z4 := Try.sizeOf4
  v4 := Try.zeroValue4
  t5 := Try.underlying5
  a5 := Try.isAgg5
  z5 := Try.sizeOf5
  v5 := Try.zeroValue5
  t9 := Try.underlying9
  a9 := Try.isAgg9
  z9 := Try.sizeOf9
  v9 := Try.zeroValue9
  t26 := Try.underlying33
  a26 := Try.isAgg33
  z26 := Try.sizeOf33
  v26 := Try.zeroValue33
  t27 := Try.underlying33
  a27 := Try.isAgg33
  z27 := Try.sizeOf33
  v27 := Try.zeroValue33
  t29 := Try.underlying9
  a29 := Try.isAgg9
  z29 := Try.sizeOf9
  v29 := Try.zeroValue9
  t32 := Try.underlying29
  a32 := Try.isAgg29
  z32 := Try.sizeOf29
  v32 := Try.zeroValue29
  t35 := Try.underlying107
  a35 := Try.isAgg107
  z35 := Try.sizeOf107
  v35 := Try.zeroValue107
  t36 := Try.underlying108
  a36 := Try.isAgg108
  z36 := Try.sizeOf108
  v36 := Try.zeroValue108
  t41 := Try.underlying81
  a41 := Try.isAgg81
  z41 := Try.sizeOf81
  v41 := Try.zeroValue81
  t44 := Try.underlying114
  a44 := Try.isAgg114
  z44 := Try.sizeOf114
  v44 := Try.zeroValue114
  t46 := Try.underlying40
  a46 := Try.isAgg40
  z46 := Try.sizeOf40
  v46 := Try.zeroValue40
  t53 := Try.underlying126
  a53 := Try.isAgg126
  z53 := Try.sizeOf126
  v53 := Try.zeroValue126
  t57 := Try.underlying129
  a57 := Try.isAgg129
  z57 := Try.sizeOf129
  v57 := Try.zeroValue129
  t63 := Try.underlying136
  a63 := Try.isAgg136
  z63 := Try.sizeOf136
  v63 := Try.zeroValue136
  t64 := Try.underlying137
  a64 := Try.isAgg137
  z64 := Try.sizeOf137
  v64 := Try.zeroValue137 }
def Try.keys50_ren : Go.Shelf.Ren := ⟨fun | 7 => 50 | 10 => 71 | n => n, fun | 23 => 61 | 26 => 9 | 3 => 66 | 28 => 88 | 0 => 0 | 27 => 87 | 33 => 105 | 4 => 4 | n => n, fun | n => n⟩
theorem Try.keys50 : Go.Proofs.SlLaysZ.n7 Try.prog Try.keys50_ren := {
  mixed := by kernel_rfl
  f7 := ⟨Try.f50.name, by decide, Try.func50.trans (congrArg some (by kernel_rfl))⟩
  f10 := ⟨Try.f71.name, by decide, Try.func71.trans (congrArg some (by kernel_rfl))⟩
  t0 := Try.underlying0
  a0 := Try.isAgg0
  z0 := Try.sizeOf0
  v0 := Try.zeroValue0
  t4 := Try.underlying4
  a4 := Try.isAgg4
  z4 := Try.sizeOf4
  v4 := Try.zeroValue4
  t23 := Try.underlying61
  a23 := Try.isAgg61
  z23 := Try.sizeOf61
  v23 := Try.zeroValue61
  t26 := Try.underlying9
  a26 := Try.isAgg9
  z26 := Try.sizeOf9
  v26 := Try.zeroValue9
  t27 := Try.underlying87
  a27 := Try.isAgg87
  z27 := Try.sizeOf87
  v27 := Try.zeroValue87
  t28 := Try.underlying88
  a28 := Try.isAgg88
  z28 := Try.sizeOf88
  v28 := Try.zeroValue88
  t33 := Try.underlying105
  a33 := Try.isAgg105
  z33 := Try.sizeOf105
  v33 := Try.zeroValue105 }


/-- slices.Sort's two contracts at this dump, at the fence that asks nothing. -/
theorem Try.sorts43 (m : Nat) : AnyZ.SortsIn Try.prog Try.sorted43_ren Fence.wide m :=
  ⟨fun blk off cap ss W hH hblk hsz => callsIn_wide.2 (AnyM.slices_Sort_string Try.sort27 blk off cap ss W hH hblk hsz),
   fun p cap W => callsIn_wide.2 (AnyM.slices_Sort_string_none Try.sort27 p cap W)⟩

/-- **maps.Keys[map[string]bool,string,bool], at whatever map, the nil one too:** a function value over ONE NEW BLOCK, which holds the map. -/
theorem Try.maps_Keys_44 (mb : Option Nat) (W : World) : CallsIn Fence.wide 5 Try.prog 44 #[.map mb] W fun e w' => e = .returned (.func (.func 69) #[] #[.pointer (some ⟨W.heap.size, 0, none⟩)]) ∧ w' = W.alloc (.cells #[.map mb] 62) :=
  AnyZ.keys_in Try.keys44 Fence.wide 5 trivial rfl mb W

set_option maxHeartbeats 1000000 in
/-- **slices.Sorted[string] AT WHAT maps.Keys[map[string]bool,string,bool] HANDED BACK FOR A MAP THAT IS NOT nil** ('w': the world AHEAD of maps.Keys' call): A NEW SLICE THAT HOLDS THE MAP's KEYS, SORTED; nil just where it has none; nothing that lay before has turned. -/
theorem Try.slices_Sorted_keys_43_44 {H : Type} (b nn : Nat) (D0 : DataW H) (R : Value → Option (DataW H × List MemPlace)) (w : World) (hown : w.ownsMap Try.prog 9 R b nn D0) (hmax : Maps.size D0 ≤ maxLen) (hbytes : Maps.size D0 * 16 ≤ 140737488355328) :
    CallsIn Fence.wide 5 Try.prog 43 #[.func (.func 69) #[] #[.pointer (some ⟨w.heap.size, 0, none⟩)]] (w.alloc (.cells #[.map (some b)] 62)) fun e w' => ∃ (v : Value) (ss : List (List UInt8)), e = .returned v ∧ ss.Perm (strKeys D0) ∧
      w'.ownsRow (w.alloc (.cells #[.map (some b)] 62)).heap.size 9 1 v ss.length ((ss.mergeSort (fun x y => decide (x ≤ y))).map encStr) ∧ (v = .slice none 0 0 ↔ ss = []) ∧ Below (w.alloc (.cells #[.map (some b)] 62)).heap.size (w.alloc (.cells #[.map (some b)] 62)) w' := by
  have hbl := hown.lt
  have hseq : SeqGives Fence.wide 2 Try.prog 69 #[.pointer (some ⟨w.heap.size, 0, none⟩)] encStr (fun ss => ss.Perm (strKeys D0)) (Maps.size D0) (w.alloc (.cells #[.map (some b)] 62)) :=
    AnyZ.keys_gives (ρ := Try.keys44_ren) { Try.keys44 with } Fence.wide _ trivial rfl (by omega) w.heap.size b nn D0 _ (by simp) (by simp) (by
      obtain ⟨es, clock, hb, Ft, hs, hD⟩ := hown
      exact ⟨es, clock, (Below.heap_alloc _ _ b hbl).trans hb, Ft, hs, hD⟩)
  exact AnyZ.sorted_in Try.sorted43 Fence.wide 5 trivial trivial trivial trivial rfl (by omega) (Try.sorts43 _) (enters_of Try.func27 (by kernel_rfl) rfl) 69 #[.pointer (some ⟨w.heap.size, 0, none⟩)] trivial (enters_of Try.func69 (by kernel_rfl) rfl) _ _ hmax hbytes _ hseq

set_option maxHeartbeats 1000000 in
/-- **.. AND FOR THE nil MAP: nil.** -/
theorem Try.slices_Sorted_keys_nil_43_44 (w : World) :
    CallsIn Fence.wide 5 Try.prog 43 #[.func (.func 69) #[] #[.pointer (some ⟨w.heap.size, 0, none⟩)]] (w.alloc (.cells #[.map none] 62)) fun e w' => ∃ (v : Value) (ss : List (List UInt8)), e = .returned v ∧ ss = [] ∧
      w'.ownsRow (w.alloc (.cells #[.map none] 62)).heap.size 9 1 v ss.length ((ss.mergeSort (fun x y => decide (x ≤ y))).map encStr) ∧ (v = .slice none 0 0 ↔ ss = []) ∧ Below (w.alloc (.cells #[.map none] 62)).heap.size (w.alloc (.cells #[.map none] 62)) w' := by
  have hseq : SeqGives Fence.wide 2 Try.prog 69 #[.pointer (some ⟨w.heap.size, 0, none⟩)] encStr (fun ss : List (List UInt8) => ss = []) 0 (w.alloc (.cells #[.map none] 62)) :=
    AnyZ.keys_gives_nil (ρ := Try.keys44_ren) { Try.keys44 with } Fence.wide _ trivial rfl w.heap.size _ (by simp) (by simp)
  exact AnyZ.sorted_in Try.sorted43 Fence.wide 5 trivial trivial trivial trivial rfl (by omega) (Try.sorts43 _) (enters_of Try.func27 (by kernel_rfl) rfl) 69 #[.pointer (some ⟨w.heap.size, 0, none⟩)] trivial (enters_of Try.func69 (by kernel_rfl) rfl) _ 0 (Nat.zero_le _) (by omega) _ hseq



/-- **maps.Keys[map[string]example.com/riftwatch/riftwatch/suspicion.pair,string,example.com/riftwatch/riftwatch/suspicion.pair], at whatever map, the nil one too:** a function value over ONE NEW BLOCK, which holds the map. -/
theorem Try.maps_Keys_50 (mb : Option Nat) (W : World) : CallsIn Fence.wide 5 Try.prog 50 #[.map mb] W fun e w' => e = .returned (.func (.func 71) #[] #[.pointer (some ⟨W.heap.size, 0, none⟩)]) ∧ w' = W.alloc (.cells #[.map mb] 61) :=
  AnyZ.keys_in Try.keys50 Fence.wide 5 trivial rfl mb W

set_option maxHeartbeats 1000000 in
/-- **slices.Sorted[string] AT WHAT maps.Keys[map[string]example.com/riftwatch/riftwatch/suspicion.pair,string,example.com/riftwatch/riftwatch/suspicion.pair] HANDED BACK FOR A MAP THAT IS NOT nil** ('w': the world AHEAD of maps.Keys' call): A NEW SLICE THAT HOLDS THE MAP's KEYS, SORTED; nil just where it has none; nothing that lay before has turned. -/
theorem Try.slices_Sorted_keys_43_50 {H : Type} (b nn : Nat) (D0 : DataW H) (R : Value → Option (DataW H × List MemPlace)) (w : World) (hown : w.ownsMap Try.prog 9 R b nn D0) (hmax : Maps.size D0 ≤ maxLen) (hbytes : Maps.size D0 * 16 ≤ 140737488355328) :
    CallsIn Fence.wide 5 Try.prog 43 #[.func (.func 71) #[] #[.pointer (some ⟨w.heap.size, 0, none⟩)]] (w.alloc (.cells #[.map (some b)] 61)) fun e w' => ∃ (v : Value) (ss : List (List UInt8)), e = .returned v ∧ ss.Perm (strKeys D0) ∧
      w'.ownsRow (w.alloc (.cells #[.map (some b)] 61)).heap.size 9 1 v ss.length ((ss.mergeSort (fun x y => decide (x ≤ y))).map encStr) ∧ (v = .slice none 0 0 ↔ ss = []) ∧ Below (w.alloc (.cells #[.map (some b)] 61)).heap.size (w.alloc (.cells #[.map (some b)] 61)) w' := by
  have hbl := hown.lt
  have hseq : SeqGives Fence.wide 2 Try.prog 71 #[.pointer (some ⟨w.heap.size, 0, none⟩)] encStr (fun ss => ss.Perm (strKeys D0)) (Maps.size D0) (w.alloc (.cells #[.map (some b)] 61)) :=
    AnyZ.keys_gives (ρ := Try.keys50_ren) { Try.keys50 with } Fence.wide _ trivial rfl (by omega) w.heap.size b nn D0 _ (by simp) (by simp) (by
      obtain ⟨es, clock, hb, Ft, hs, hD⟩ := hown
      exact ⟨es, clock, (Below.heap_alloc _ _ b hbl).trans hb, Ft, hs, hD⟩)
  exact AnyZ.sorted_in Try.sorted43 Fence.wide 5 trivial trivial trivial trivial rfl (by omega) (Try.sorts43 _) (enters_of Try.func27 (by kernel_rfl) rfl) 71 #[.pointer (some ⟨w.heap.size, 0, none⟩)] trivial (enters_of Try.func71 (by kernel_rfl) rfl) _ _ hmax hbytes _ hseq

set_option maxHeartbeats 1000000 in
/-- **.. AND FOR THE nil MAP: nil.** -/
theorem Try.slices_Sorted_keys_nil_43_50 (w : World) :
    CallsIn Fence.wide 5 Try.prog 43 #[.func (.func 71) #[] #[.pointer (some ⟨w.heap.size, 0, none⟩)]] (w.alloc (.cells #[.map none] 61)) fun e w' => ∃ (v : Value) (ss : List (List UInt8)), e = .returned v ∧ ss = [] ∧
      w'.ownsRow (w.alloc (.cells #[.map none] 61)).heap.size 9 1 v ss.length ((ss.mergeSort (fun x y => decide (x ≤ y))).map encStr) ∧ (v = .slice none 0 0 ↔ ss = []) ∧ Below (w.alloc (.cells #[.map none] 61)).heap.size (w.alloc (.cells #[.map none] 61)) w' := by
  have hseq : SeqGives Fence.wide 2 Try.prog 71 #[.pointer (some ⟨w.heap.size, 0, none⟩)] encStr (fun ss : List (List UInt8) => ss = []) 0 (w.alloc (.cells #[.map none] 61)) :=
    AnyZ.keys_gives_nil (ρ := Try.keys50_ren) { Try.keys50 with } Fence.wide _ trivial rfl w.heap.size _ (by simp) (by simp)
  exact AnyZ.sorted_in Try.sorted43 Fence.wide 5 trivial trivial trivial trivial rfl (by omega) (Try.sorts43 _) (enters_of Try.func27 (by kernel_rfl) rfl) 71 #[.pointer (some ⟨w.heap.size, 0, none⟩)] trivial (enters_of Try.func71 (by kernel_rfl) rfl) _ 0 (Nat.zero_le _) (by omega) _ hseq



end Go.Proofs
