/- slices.Sorted(maps.Keys(m)) by the shelf's contracts, laid at this dump in plain words. -/
import Derived.Shelf.SlIter.Nil
import Derived.Shelf.SortM.Plain
import Derived.Shelf.SortM.SortNone
import Derived.Ground.GgzProg
import Derived.Ground.SlgmProg
import Derived.Test.Qxb6615025aProg
namespace Go.Proofs.Qxb6615025a
open Go.Proofs Go.RowKit Go.Maps Go.Sort Go.Shelf

def Try.keys35_ren : Go.Shelf.Ren := ⟨fun | 7 => 35 | 10 => 46 | n => n, fun | 23 => 30 | 26 => 9 | 3 => 22 | 28 => 68 | 0 => 0 | 27 => 67 | 33 => 87 | 4 => 4 | n => n, fun | n => n⟩
theorem Try.keys35 : Go.Proofs.SlLaysZ.n7 Try.prog Try.keys35_ren := {
  mixed := by kernel_rfl
  f7 := ⟨Try.f35.name, by decide, Try.func35.trans (congrArg some (by kernel_rfl))⟩
  f10 := ⟨Try.f46.name, by decide, Try.func46.trans (congrArg some (by kernel_rfl))⟩
  t0 := Try.underlying0
  a0 := Try.isAgg0
  z0 := Try.sizeOf0
  v0 := Try.zeroValue0
  t4 := Try.underlying4
  a4 := Try.isAgg4
  z4 := Try.sizeOf4
  v4 := Try.zeroValue4
  t23 := Try.underlying30
  a23 := Try.isAgg30
  z23 := Try.sizeOf30
  v23 := Try.zeroValue30
  t26 := Try.underlying9
  a26 := Try.isAgg9
  z26 := Try.sizeOf9
  v26 := Try.zeroValue9
  t27 := Try.underlying67
  a27 := Try.isAgg67
  z27 := Try.sizeOf67
  v27 := Try.zeroValue67
  t28 := Try.underlying68
  a28 := Try.isAgg68
  z28 := Try.sizeOf68
  v28 := Try.zeroValue68
  t33 := Try.underlying87
  a33 := Try.isAgg87
  z33 := Try.sizeOf87
  v33 := Try.zeroValue87 }
def Try.sorted34_ren : Go.Shelf.Ren := ⟨fun | 6 => 34 | 8 => 44 | 9 => 45 | 11 => 50 | 13 => 52 | 12 => 51 | 23 => 63 | 24 => 64 | 14 => 54 | 15 => 55 | 16 => 56 | 17 => 57 | 18 => 58 | 19 => 59 | 20 => 60 | 21 => 61 | 22 => 62 | 25 => 65 | 26 => 66 | 27 => 67 | 28 => 68 | 29 => 69 | 30 => 70 | 31 => 71 | n => n, fun | 26 => 9 | 28 => 68 | 24 => 22 | 0 => 0 | 3 => 3 | 37 => 95 | 48 => 104 | 50 => 106 | 4 => 4 | 40 => 98 | 39 => 97 | 45 => 50 | 5 => 5 | 9 => 9 | 51 => 107 | 55 => 111 | 57 => 113 | 58 => 114 | 33 => 87 | n => n, fun | n => n⟩
theorem Try.sorted34 : Go.Proofs.SlLaysZ.n6 Try.prog Try.sorted34_ren := {
  mixed := by kernel_rfl
  f6 := ⟨Try.f34.name, by decide, Try.func34.trans (congrArg some (by kernel_rfl))⟩
  f8 := ⟨Try.f44.name, by decide, Try.func44.trans (congrArg some (by kernel_rfl))⟩
  f11 := ⟨Try.f50.name, by decide, Try.func50.trans (congrArg some (by kernel_rfl))⟩
  t0 := Try.underlying0
  a0 := Try.isAgg0
  z0 := Try.sizeOf0
  v0 := Try.zeroValue0
  t24 := Try.underlying22
  a24 := Try.isAgg22
  z24 := Try.sizeOf22
  v24 := Try.zeroValue22
  t26 := Try.underlying9
  a26 := Try.isAgg9
  z26 := Try.sizeOf9
  v26 := Try.zeroValue9
  t28 := Try.underlying68
  a28 := Try.isAgg68
  z28 := Try.sizeOf68
  v28 := Try.zeroValue68
  i26 := by kernel_rfl }
def Try.sort45_ren : Go.Shelf.Ren := ⟨fun | 6 => 45 | 8 => 52 | 9 => 51 | 19 => 63 | 20 => 64 | 21 => 54 | 22 => 55 | 23 => 56 | 24 => 57 | 25 => 58 | 26 => 59 | 27 => 60 | 28 => 61 | 29 => 62 | 36 => 65 | 31 => 66 | 32 => 67 | 37 => 68 | 38 => 69 | 39 => 70 | 41 => 71 | n => n, fun | 27 => 22 | 29 => 9 | 3 => 3 | 32 => 95 | 26 => 22 | 0 => 0 | 44 => 104 | 46 => 106 | 4 => 4 | 36 => 98 | 35 => 97 | 41 => 50 | 5 => 5 | 9 => 9 | 53 => 107 | 57 => 111 | 63 => 113 | 64 => 114 | n => n, fun | n => n⟩
theorem Try.sort45 : Go.Proofs.SlLaysM.n6 Try.prog Try.sort45_ren := {
  mixed := by kernel_rfl
  f6 := ⟨Try.f45.name, by decide, Try.func45.trans (congrArg some (by kernel_rfl))⟩
  f8 := Try.func52.trans (congrArg some (by kernel_rfl))
  f9 := ⟨Try.f51.name, by decide, Try.func51.trans (congrArg some (by kernel_rfl))⟩
  f19 := Try.func63.trans (congrArg some (by kernel_rfl))
  f20 := Try.func64.trans (congrArg some (by kernel_rfl))
  f21 := ⟨Try.f54.name, by decide, Try.func54.trans (congrArg some (by kernel_rfl))⟩
  f22 := ⟨Try.f55.name, by decide, Try.func55.trans (congrArg some (by kernel_rfl))⟩
  f23 := ⟨Try.f56.name, by decide, Try.func56.trans (congrArg some (by kernel_rfl))⟩
  f24 := ⟨Try.f57.name, by decide, Try.func57.trans (congrArg some (by kernel_rfl))⟩
  f25 := ⟨Try.f58.name, by decide, Try.func58.trans (congrArg some (by kernel_rfl))⟩
  f26 := ⟨Try.f59.name, by decide, Try.func59.trans (congrArg some (by kernel_rfl))⟩
  f27 := ⟨Try.f60.name, by decide, Try.func60.trans (congrArg some (by kernel_rfl))⟩
  f28 := ⟨Try.f61.name, by decide, Try.func61.trans (congrArg some (by kernel_rfl))⟩
  f29 := ⟨Try.f62.name, by decide, Try.func62.trans (congrArg some (by kernel_rfl))⟩
  f31 := Try.func66.trans (congrArg some (by kernel_rfl))
  f32 := Try.func67.trans (congrArg some (by kernel_rfl))
  f36 := ⟨Try.f65.name, by decide, Try.func65.trans (congrArg some (by kernel_rfl))⟩
  f37 := ⟨Try.f68.name, by decide, Try.func68.trans (congrArg some (by kernel_rfl))⟩
  f38 := ⟨Try.f69.name, by decide, Try.func69.trans (congrArg some (by kernel_rfl))⟩
  f39 := ⟨Try.f70.name, by decide, Try.func70.trans (congrArg some (by kernel_rfl))⟩
  f41 := ⟨Try.f71.name, by decide, Try.func71.trans (congrArg some (by kernel_rfl))⟩
  t0 := Try.underlying0
  a0 := Try.isAgg0
  z0 := Try.sizeOf0
  v0 := Try.zeroValue0
  t3 := Try.underlying3
  a3 := Try.isAgg3
  z3 := Try.sizeOf3
  v3 := Try.zeroValue3
  t4 := Try.underlying4
  a4 := Try.isAgg4
  z4 := Try.sizeOf4
  v4 := Try.zeroValue4
  t5 := Try.underlying5
  a5 := Try.isAgg5
  z5 := Try.sizeOf5
  v5 := Try.zeroValue5
  t9 := Try.underlying9
  a9 := Try.isAgg9
  z9 := Try.sizeOf9
  v9 := Try.zeroValue9
  t26 := Try.underlying22
  a26 := Try.isAgg22
  z26 := Try.sizeOf22
  v26 := Try.zeroValue22
  t27 := Try.underlying22
  a27 := Try.isAgg22
  z27 := Try.sizeOf22
  v27 := Try.zeroValue22
  t29 := Try.underlying9
  a29 := Try.isAgg9
  z29 := Try.sizeOf9
  v29 := Try.zeroValue9
  t32 := Try.underlying95
  a32 := Try.isAgg95
  z32 := Try.sizeOf95
  v32 := Try.zeroValue95
  t35 := Try.underlying97
  a35 := Try.isAgg97
  z35 := Try.sizeOf97
  v35 := Try.zeroValue97
  t36 := Try.underlying98
  a36 := Try.isAgg98
  z36 := Try.sizeOf98
  v36 := Try.zeroValue98
  t41 := Try.underlying50
  a41 := Try.isAgg50
  z41 := Try.sizeOf50
  v41 := Try.zeroValue50
  t44 := Try.underlying104
  a44 := Try.isAgg104
  z44 := Try.sizeOf104
  v44 := Try.zeroValue104
  t46 := Try.underlying106
  a46 := Try.isAgg106
  z46 := Try.sizeOf106
  v46 := Try.zeroValue106
  t53 := Try.underlying107
  a53 := Try.isAgg107
  z53 := Try.sizeOf107
  v53 := Try.zeroValue107
  t57 := Try.underlying111
  a57 := Try.isAgg111
  z57 := Try.sizeOf111
  v57 := Try.zeroValue111
  t63 := Try.underlying113
  a63 := Try.isAgg113
  z63 := Try.sizeOf113
  v63 := Try.zeroValue113
  t64 := Try.underlying114
  a64 := Try.isAgg114
  z64 := Try.sizeOf114
  v64 := Try.zeroValue114 }

/-- slices.Sort's two contracts at this dump, at the fence that asks nothing. -/
theorem Try.sorts34 (m : Nat) : AnyZ.SortsIn Try.prog Try.sorted34_ren Fence.wide m :=
  ⟨fun blk off cap ss W hH hblk hsz => callsIn_wide.2 (AnyM.slices_Sort_string Try.sort45 blk off cap ss W hH hblk hsz),
   fun p cap W => callsIn_wide.2 (AnyM.slices_Sort_string_none Try.sort45 p cap W)⟩

/-- **maps.Keys[example.com/cairnwork/cairnwork/internal/graph.Graph,string,[]string], at whatever map, the nil one too:** a function value over ONE NEW BLOCK, which holds the map. -/
theorem Try.maps_Keys_35 (mb : Option Nat) (W : World) : CallsIn Fence.wide 5 Try.prog 35 #[.map mb] W fun e w' => e = .returned (.func (.func 46) #[] #[.pointer (some ⟨W.heap.size, 0, none⟩)]) ∧ w' = W.alloc (.cells #[.map mb] 30) :=
  AnyZ.keys_in Try.keys35 Fence.wide 5 trivial rfl mb W

set_option maxHeartbeats 1000000 in
/-- **slices.Sorted[string] AT WHAT maps.Keys[example.com/cairnwork/cairnwork/internal/graph.Graph,string,[]string] HANDED BACK FOR A MAP THAT IS NOT nil** ('w': the world AHEAD of maps.Keys' call): A NEW SLICE THAT HOLDS THE MAP's KEYS, SORTED; nil just where it has none; nothing that lay before has turned. -/
theorem Try.slices_Sorted_keys_34_35 {H : Type} (b nn : Nat) (D0 : DataW H) (R : Value → Option (DataW H × List MemPlace)) (w : World) (hown : w.ownsMap Try.prog 9 R b nn D0) (hmax : Maps.size D0 ≤ maxLen) (hbytes : Maps.size D0 * 16 ≤ 140737488355328) :
    CallsIn Fence.wide 5 Try.prog 34 #[.func (.func 46) #[] #[.pointer (some ⟨w.heap.size, 0, none⟩)]] (w.alloc (.cells #[.map (some b)] 30)) fun e w' => ∃ (v : Value) (ss : List (List UInt8)), e = .returned v ∧ ss.Perm (strKeys D0) ∧
      w'.ownsRow (w.alloc (.cells #[.map (some b)] 30)).heap.size 9 1 v ss.length ((ss.mergeSort (fun x y => decide (x ≤ y))).map encStr) ∧ (v = .slice none 0 0 ↔ ss = []) ∧ Below (w.alloc (.cells #[.map (some b)] 30)).heap.size (w.alloc (.cells #[.map (some b)] 30)) w' := by
  have hbl := hown.lt
  have hseq : SeqGives Fence.wide 2 Try.prog 46 #[.pointer (some ⟨w.heap.size, 0, none⟩)] encStr (fun ss => ss.Perm (strKeys D0)) (Maps.size D0) (w.alloc (.cells #[.map (some b)] 30)) :=
    AnyZ.keys_gives (ρ := Try.keys35_ren) { Try.keys35 with } Fence.wide _ trivial rfl (by omega) w.heap.size b nn D0 _ (by simp) (by simp) (by
      obtain ⟨es, clock, hb, Ft, hs, hD⟩ := hown
      exact ⟨es, clock, (Below.heap_alloc _ _ b hbl).trans hb, Ft, hs, hD⟩)
  exact AnyZ.sorted_in Try.sorted34 Fence.wide 5 trivial trivial trivial trivial rfl (by omega) (Try.sorts34 _) (enters_of Try.func45 (by kernel_rfl) rfl) 46 #[.pointer (some ⟨w.heap.size, 0, none⟩)] trivial (enters_of Try.func46 (by kernel_rfl) rfl) _ _ hmax hbytes _ hseq

set_option maxHeartbeats 1000000 in
/-- **.. AND FOR THE nil MAP: nil.** -/
theorem Try.slices_Sorted_keys_nil_34_35 (w : World) :
    CallsIn Fence.wide 5 Try.prog 34 #[.func (.func 46) #[] #[.pointer (some ⟨w.heap.size, 0, none⟩)]] (w.alloc (.cells #[.map none] 30)) fun e w' => ∃ (v : Value) (ss : List (List UInt8)), e = .returned v ∧ ss = [] ∧
      w'.ownsRow (w.alloc (.cells #[.map none] 30)).heap.size 9 1 v ss.length ((ss.mergeSort (fun x y => decide (x ≤ y))).map encStr) ∧ (v = .slice none 0 0 ↔ ss = []) ∧ Below (w.alloc (.cells #[.map none] 30)).heap.size (w.alloc (.cells #[.map none] 30)) w' := by
  have hseq : SeqGives Fence.wide 2 Try.prog 46 #[.pointer (some ⟨w.heap.size, 0, none⟩)] encStr (fun ss : List (List UInt8) => ss = []) 0 (w.alloc (.cells #[.map none] 30)) :=
    AnyZ.keys_gives_nil (ρ := Try.keys35_ren) { Try.keys35 with } Fence.wide _ trivial rfl w.heap.size _ (by simp) (by simp)
  exact AnyZ.sorted_in Try.sorted34 Fence.wide 5 trivial trivial trivial trivial rfl (by omega) (Try.sorts34 _) (enters_of Try.func45 (by kernel_rfl) rfl) 46 #[.pointer (some ⟨w.heap.size, 0, none⟩)] trivial (enters_of Try.func46 (by kernel_rfl) rfl) _ 0 (Nat.zero_le _) (by omega) _ hseq


end Go.Proofs.Qxb6615025a
