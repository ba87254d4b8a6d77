/-
  DERIVED: THE SHELF's CONTRACTS AT THIS DUMP, IN PLAIN WORDS (tools/lay-plain.mjs out of 'TryzIterS.lean', which tools/lay-shelf.mjs wrote): THE SAME DECLARATIONS UNDER THE SAME NAMES: 'import', 'namespace', 'open', 'def', 'theorem' AND NOTHING ELSE: no command of the shelf's: FOR A HAND-IN. Each laying: the table of numbers ('.._ren') and one theorem, a field a fact of the dump's own or the kernel's comparison; each contract: ONE APPLICATION.
-/
import Derived.Shelf.SlIter.Nil
import Derived.Shelf.SortM.Plain
import Derived.Shelf.SortM.SortNone
import Derived.Ground.GgzProg
import Derived.Ground.SlgmProg
import Derived.Test.YtpopiaahdanpeaaGreatDoorProg
namespace Go.Proofs
open Go.Shelf
def Tryz.keys18_ren : Go.Shelf.Ren := ⟨fun | 7 => 18 | 10 => 35 | n => n, fun | 23 => 34 | 26 => 9 | 3 => 3 | 28 => 49 | 0 => 0 | 27 => 48 | 33 => 68 | 4 => 4 | n => n, fun | n => n⟩
theorem Tryz.keys18 : Go.Proofs.SlLaysZ.n7 Tryz.prog Tryz.keys18_ren := {
  mixed := by kernel_rfl
  f7 := ⟨Tryz.f18.name, by decide, Tryz.func18.trans (congrArg some (by kernel_rfl))⟩
  f10 := ⟨Tryz.f35.name, by decide, Tryz.func35.trans (congrArg some (by kernel_rfl))⟩
  t0 := Tryz.underlying0
  a0 := Tryz.isAgg0
  z0 := Tryz.sizeOf0
  v0 := Tryz.zeroValue0
  t4 := Tryz.underlying4
  a4 := Tryz.isAgg4
  z4 := Tryz.sizeOf4
  v4 := Tryz.zeroValue4
  t23 := Tryz.underlying34
  a23 := Tryz.isAgg34
  z23 := Tryz.sizeOf34
  v23 := Tryz.zeroValue34
  t26 := Tryz.underlying9
  a26 := Tryz.isAgg9
  z26 := Tryz.sizeOf9
  v26 := Tryz.zeroValue9
  t27 := Tryz.underlying48
  a27 := Tryz.isAgg48
  z27 := Tryz.sizeOf48
  v27 := Tryz.zeroValue48
  t28 := Tryz.underlying49
  a28 := Tryz.isAgg49
  z28 := Tryz.sizeOf49
  v28 := Tryz.zeroValue49
  t33 := Tryz.underlying68
  a33 := Tryz.isAgg68
  z33 := Tryz.sizeOf68
  v33 := Tryz.zeroValue68 }
def Tryz.sorted17_ren : Go.Shelf.Ren := ⟨fun | 6 => 17 | 8 => 33 | 9 => 34 | 11 => 51 | 13 => 53 | 12 => 52 | 23 => 68 | 24 => 69 | 14 => 59 | 15 => 60 | 16 => 61 | 17 => 62 | 18 => 63 | 19 => 64 | 20 => 65 | 21 => 66 | 22 => 67 | 25 => 74 | 26 => 75 | 27 => 76 | 28 => 77 | 29 => 78 | 30 => 79 | 31 => 82 | n => n, fun | 26 => 9 | 28 => 49 | 24 => 24 | 0 => 0 | 3 => 3 | 37 => 93 | 48 => 117 | 50 => 104 | 4 => 4 | 40 => 111 | 39 => 110 | 45 => 44 | 5 => 5 | 9 => 9 | 51 => 123 | 55 => 127 | 57 => 129 | 58 => 130 | 33 => 68 | n => n, fun | n => n⟩
theorem Tryz.sorted17 : Go.Proofs.SlLaysZ.n6 Tryz.prog Tryz.sorted17_ren := {
  mixed := by kernel_rfl
  f6 := ⟨Tryz.f17.name, by decide, Tryz.func17.trans (congrArg some (by kernel_rfl))⟩
  f8 := ⟨Tryz.f33.name, by decide, Tryz.func33.trans (congrArg some (by kernel_rfl))⟩
  f11 := ⟨Tryz.f51.name, by decide, Tryz.func51.trans (congrArg some (by kernel_rfl))⟩
  t0 := Tryz.underlying0
  a0 := Tryz.isAgg0
  z0 := Tryz.sizeOf0
  v0 := Tryz.zeroValue0
  t24 := Tryz.underlying24
  a24 := Tryz.isAgg24
  z24 := Tryz.sizeOf24
  v24 := Tryz.zeroValue24
  t26 := Tryz.underlying9
  a26 := Tryz.isAgg9
  z26 := Tryz.sizeOf9
  v26 := Tryz.zeroValue9
  t28 := Tryz.underlying49
  a28 := Tryz.isAgg49
  z28 := Tryz.sizeOf49
  v28 := Tryz.zeroValue49
  i26 := by kernel_rfl }
def Tryz.sort34_ren : Go.Shelf.Ren := ⟨fun | 6 => 34 | 8 => 53 | 9 => 52 | 19 => 68 | 20 => 69 | 21 => 59 | 22 => 60 | 23 => 61 | 24 => 62 | 25 => 63 | 26 => 64 | 27 => 65 | 28 => 66 | 29 => 67 | 36 => 74 | 31 => 75 | 32 => 76 | 37 => 77 | 38 => 78 | 39 => 79 | 41 => 82 | n => n, fun | 27 => 24 | 29 => 9 | 3 => 3 | 32 => 93 | 26 => 24 | 0 => 0 | 44 => 117 | 46 => 104 | 4 => 4 | 36 => 111 | 35 => 110 | 41 => 44 | 5 => 5 | 9 => 9 | 53 => 123 | 57 => 127 | 63 => 129 | 64 => 130 | n => n, fun | n => n⟩
theorem Tryz.sort34 : Go.Proofs.SlLaysM.n6 Tryz.prog Tryz.sort34_ren := {
  mixed := by kernel_rfl
  f6 := ⟨Tryz.f34.name, by decide, Tryz.func34.trans (congrArg some (by kernel_rfl))⟩
  f8 := Tryz.func53.trans (congrArg some (by kernel_rfl))
  f9 := ⟨Tryz.f52.name, by decide, Tryz.func52.trans (congrArg some (by kernel_rfl))⟩
  f19 := Tryz.func68.trans (congrArg some (by kernel_rfl))
  f20 := Tryz.func69.trans (congrArg some (by kernel_rfl))
  f21 := ⟨Tryz.f59.name, by decide, Tryz.func59.trans (congrArg some (by kernel_rfl))⟩
  f22 := ⟨Tryz.f60.name, by decide, Tryz.func60.trans (congrArg some (by kernel_rfl))⟩
  f23 := ⟨Tryz.f61.name, by decide, Tryz.func61.trans (congrArg some (by kernel_rfl))⟩
  f24 := ⟨Tryz.f62.name, by decide, Tryz.func62.trans (congrArg some (by kernel_rfl))⟩
  f25 := ⟨Tryz.f63.name, by decide, Tryz.func63.trans (congrArg some (by kernel_rfl))⟩
  f26 := ⟨Tryz.f64.name, by decide, Tryz.func64.trans (congrArg some (by kernel_rfl))⟩
  f27 := ⟨Tryz.f65.name, by decide, Tryz.func65.trans (congrArg some (by kernel_rfl))⟩
  f28 := ⟨Tryz.f66.name, by decide, Tryz.func66.trans (congrArg some (by kernel_rfl))⟩
  f29 := ⟨Tryz.f67.name, by decide, Tryz.func67.trans (congrArg some (by kernel_rfl))⟩
  f31 := Tryz.func75.trans (congrArg some (by kernel_rfl))
  f32 := Tryz.func76.trans (congrArg some (by kernel_rfl))
  f36 := ⟨Tryz.f74.name, by decide, Tryz.func74.trans (congrArg some (by kernel_rfl))⟩
  f37 := ⟨Tryz.f77.name, by decide, Tryz.func77.trans (congrArg some (by kernel_rfl))⟩
  f38 := ⟨Tryz.f78.name, by decide, Tryz.func78.trans (congrArg some (by kernel_rfl))⟩
  f39 := ⟨Tryz.f79.name, by decide, Tryz.func79.trans (congrArg some (by kernel_rfl))⟩
  f41 := ⟨Tryz.f82.name, by decide, Tryz.func82.trans (congrArg some (by kernel_rfl))⟩
  t0 := Tryz.underlying0
  a0 := Tryz.isAgg0
  z0 := Tryz.sizeOf0
  v0 := Tryz.zeroValue0
  t3 := Tryz.underlying3
  a3 := Tryz.isAgg3
  z3 := Tryz.sizeOf3
  v3 := Tryz.zeroValue3
  t4 := Tryz.underlying4
  a4 := Tryz.isAgg4
  z4 := Tryz.sizeOf4
  v4 := Tryz.zeroValue4
  t5 := Tryz.underlying5
  a5 := Tryz.isAgg5
  z5 := Tryz.sizeOf5
  v5 := Tryz.zeroValue5
  t9 := Tryz.underlying9
  a9 := Tryz.isAgg9
  z9 := Tryz.sizeOf9
  v9 := Tryz.zeroValue9
  t26 := Tryz.underlying24
  a26 := Tryz.isAgg24
  z26 := Tryz.sizeOf24
  v26 := Tryz.zeroValue24
  t27 := Tryz.underlying24
  a27 := Tryz.isAgg24
  z27 := Tryz.sizeOf24
  v27 := Tryz.zeroValue24
  t29 := Tryz.underlying9
  a29 := Tryz.isAgg9
  z29 := Tryz.sizeOf9
  v29 := Tryz.zeroValue9
  t32 := Tryz.underlying93
  a32 := Tryz.isAgg93
  z32 := Tryz.sizeOf93
  v32 := Tryz.zeroValue93
  t35 := Tryz.underlying110
  a35 := Tryz.isAgg110
  z35 := Tryz.sizeOf110
  v35 := Tryz.zeroValue110
  t36 := Tryz.underlying111
  a36 := Tryz.isAgg111
  z36 := Tryz.sizeOf111
  v36 := Tryz.zeroValue111
  t41 := Tryz.underlying44
  a41 := Tryz.isAgg44
  z41 := Tryz.sizeOf44
  v41 := Tryz.zeroValue44
  t44 := Tryz.underlying117
  a44 := Tryz.isAgg117
  z44 := Tryz.sizeOf117
  v44 := Tryz.zeroValue117
  t46 := Tryz.underlying104
  a46 := Tryz.isAgg104
  z46 := Tryz.sizeOf104
  v46 := Tryz.zeroValue104
  t53 := Tryz.underlying123
  a53 := Tryz.isAgg123
  z53 := Tryz.sizeOf123
  v53 := Tryz.zeroValue123
  t57 := Tryz.underlying127
  a57 := Tryz.isAgg127
  z57 := Tryz.sizeOf127
  v57 := Tryz.zeroValue127
  t63 := Tryz.underlying129
  a63 := Tryz.isAgg129
  z63 := Tryz.sizeOf129
  v63 := Tryz.zeroValue129
  t64 := Tryz.underlying130
  a64 := Tryz.isAgg130
  z64 := Tryz.sizeOf130
  v64 := Tryz.zeroValue130 }
open Go.RowKit Go.Maps Go.Sort Go.Shelf

/-- slices.Sort's two contracts at this dump, at the fence that asks nothing. -/
theorem Tryz.sorts17 (m : Nat) : AnyZ.SortsIn Tryz.prog Tryz.sorted17_ren Fence.wide m :=
  ⟨fun blk off cap ss W hH hblk hsz => callsIn_wide.2 (AnyM.slices_Sort_string Tryz.sort34 blk off cap ss W hH hblk hsz),
   fun p cap W => callsIn_wide.2 (AnyM.slices_Sort_string_none Tryz.sort34 p cap W)⟩

/-- **maps.Keys[map[string]int,string,int], at whatever map, the nil one too:** a function value over ONE NEW BLOCK, which holds the map. -/
theorem Tryz.maps_Keys_18 (mb : Option Nat) (W : World) : CallsIn Fence.wide 5 Tryz.prog 18 #[.map mb] W fun e w' => e = .returned (.func (.func 35) #[] #[.pointer (some ⟨W.heap.size, 0, none⟩)]) ∧ w' = W.alloc (.cells #[.map mb] 34) :=
  AnyZ.keys_in Tryz.keys18 Fence.wide 5 trivial rfl mb W

set_option maxHeartbeats 1000000 in
/-- **slices.Sorted[string] AT WHAT maps.Keys[map[string]int,string,int] HANDED BACK FOR A MAP THAT IS NOT nil** ('w': the world AHEAD of maps.Keys' call): A NEW SLICE THAT HOLDS THE MAP's KEYS, SORTED; nil just where it has none; nothing that lay before has turned. -/
theorem Tryz.slices_Sorted_keys_17_18 {H : Type} (b nn : Nat) (D0 : DataW H) (R : Value → Option (DataW H × List MemPlace)) (w : World) (hown : w.ownsMap Tryz.prog 9 R b nn D0) (hmax : Maps.size D0 ≤ maxLen) (hbytes : Maps.size D0 * 16 ≤ 140737488355328) :
    CallsIn Fence.wide 5 Tryz.prog 17 #[.func (.func 35) #[] #[.pointer (some ⟨w.heap.size, 0, none⟩)]] (w.alloc (.cells #[.map (some b)] 34)) fun e w' => ∃ (v : Value) (ss : List (List UInt8)), e = .returned v ∧ ss.Perm (strKeys D0) ∧
      w'.ownsRow (w.alloc (.cells #[.map (some b)] 34)).heap.size 9 1 v ss.length ((ss.mergeSort (fun x y => decide (x ≤ y))).map encStr) ∧ (v = .slice none 0 0 ↔ ss = []) ∧ Below (w.alloc (.cells #[.map (some b)] 34)).heap.size (w.alloc (.cells #[.map (some b)] 34)) w' := by
  have hbl := hown.lt
  have hseq : SeqGives Fence.wide 2 Tryz.prog 35 #[.pointer (some ⟨w.heap.size, 0, none⟩)] encStr (fun ss => ss.Perm (strKeys D0)) (Maps.size D0) (w.alloc (.cells #[.map (some b)] 34)) :=
    AnyZ.keys_gives (ρ := Tryz.keys18_ren) { Tryz.keys18 with } Fence.wide _ trivial rfl (by omega) w.heap.size b nn D0 _ (by simp) (by simp) (by
      obtain ⟨es, clock, hb, Ft, hs, hD⟩ := hown
      exact ⟨es, clock, (Below.heap_alloc _ _ b hbl).trans hb, Ft, hs, hD⟩)
  exact AnyZ.sorted_in Tryz.sorted17 Fence.wide 5 trivial trivial trivial trivial rfl (by omega) (Tryz.sorts17 _) (enters_of Tryz.func34 (by kernel_rfl) rfl) 35 #[.pointer (some ⟨w.heap.size, 0, none⟩)] trivial (enters_of Tryz.func35 (by kernel_rfl) rfl) _ _ hmax hbytes _ hseq

set_option maxHeartbeats 1000000 in
/-- **.. AND FOR THE nil MAP: nil.** -/
theorem Tryz.slices_Sorted_keys_nil_17_18 (w : World) :
    CallsIn Fence.wide 5 Tryz.prog 17 #[.func (.func 35) #[] #[.pointer (some ⟨w.heap.size, 0, none⟩)]] (w.alloc (.cells #[.map none] 34)) fun e w' => ∃ (v : Value) (ss : List (List UInt8)), e = .returned v ∧ ss = [] ∧
      w'.ownsRow (w.alloc (.cells #[.map none] 34)).heap.size 9 1 v ss.length ((ss.mergeSort (fun x y => decide (x ≤ y))).map encStr) ∧ (v = .slice none 0 0 ↔ ss = []) ∧ Below (w.alloc (.cells #[.map none] 34)).heap.size (w.alloc (.cells #[.map none] 34)) w' := by
  have hseq : SeqGives Fence.wide 2 Tryz.prog 35 #[.pointer (some ⟨w.heap.size, 0, none⟩)] encStr (fun ss : List (List UInt8) => ss = []) 0 (w.alloc (.cells #[.map none] 34)) :=
    AnyZ.keys_gives_nil (ρ := Tryz.keys18_ren) { Tryz.keys18 with } Fence.wide _ trivial rfl w.heap.size _ (by simp) (by simp)
  exact AnyZ.sorted_in Tryz.sorted17 Fence.wide 5 trivial trivial trivial trivial rfl (by omega) (Tryz.sorts17 _) (enters_of Tryz.func34 (by kernel_rfl) rfl) 35 #[.pointer (some ⟨w.heap.size, 0, none⟩)] trivial (enters_of Tryz.func35 (by kernel_rfl) rfl) _ 0 (Nat.zero_le _) (by omega) _ hseq

end Go.Proofs
