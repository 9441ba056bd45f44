/-
  DERIVED: THE SHELF's CONTRACTS AT THIS DUMP, IN PLAIN WORDS (tools/lay-plain.mjs out of 'Qxb6613313aShelfB.lean', which tools/lay-shelf.mjs wrote): THE SAME DECLARATIONS UNDER THE SAME NAMES: 'import', 'namespace', 'open', 'def', 'theorem' AND NOTHING ELSE: no command of the shelf's: FOR A HAND-IN. Each laying: the table of numbers ('.._ren') and one theorem, a field a fact of the dump's own or the kernel's comparison; each contract: ONE APPLICATION.
-/
import Derived.Shelf.Strings.OnBuilder
import Derived.Shelf.SlIter.Nil
import Derived.Shelf.SortM.Plain
import Derived.Shelf.SortM.SortNone
import Derived.Shelf.SlGeneric
import Derived.Ground.GgzProg
import Derived.Ground.SlgmProg
import Derived.Test.Qxb6613313aProg
set_option maxRecDepth 100000
set_option maxHeartbeats 1000000
namespace Go.Proofs
open Go.Shelf
def Try.lays156_ren : Go.Shelf.Ren := ⟨fun | 156 => 32 | 165 => 35 | 166 => 36 | 169 => 37 | 240 => 40 | 241 => 41 | 276 => 45 | 277 => 46 | n => n, fun | 31 => 32 | 9 => 9 | 3 => 3 | 4 => 4 | 0 => 0 | 20 => 20 | 72 => 85 | 76 => 89 | 70 => 82 | 37 => 83 | 75 => 88 | 127 => 95 | 164 => 98 | 5 => 5 | 80 => 48 | n => n, fun | n => n⟩
theorem Try.lays156 : Go.Proofs.Lays.n156 Try.prog Try.lays156_ren := {
  mixed := by kernel_rfl
  f156 := Try.func32.trans (congrArg some (by kernel_rfl))
  f165 := Try.func35.trans (congrArg some (by kernel_rfl))
  f166 := Try.func36.trans (congrArg some (by kernel_rfl))
  f169 := Try.func37.trans (congrArg some (by kernel_rfl))
  f240 := Try.func40.trans (congrArg some (by kernel_rfl))
  f241 := Try.func41.trans (congrArg some (by kernel_rfl))
  f276 := Try.func45.trans (congrArg some (by kernel_rfl))
  f277 := Try.func46.trans (congrArg some (by kernel_rfl))
  t0 := Try.underlying0
  a0 := Try.isAgg0
  z0 := Try.sizeOf0
  v0 := Try.zeroValue0
  t3 := Try.underlying3
  a3 := Try.isAgg3
  z3 := Try.sizeOf3
  v3 := Try.zeroValue3
  t4 := Try.underlying4
  a4 := Try.isAgg4
  z4 := Try.sizeOf4
  v4 := Try.zeroValue4
  t9 := Try.underlying9
  a9 := Try.isAgg9
  z9 := Try.sizeOf9
  v9 := Try.zeroValue9
  t20 := Try.underlying20
  a20 := Try.isAgg20
  z20 := Try.sizeOf20
  v20 := Try.zeroValue20
  t31 := Try.underlying32
  a31 := Try.isAgg32
  z31 := Try.sizeOf32
  v31 := Try.zeroValue32
  t37 := Try.underlying83
  a37 := Try.isAgg83
  z37 := Try.sizeOf83
  v37 := Try.zeroValue83
  t70 := Try.underlying82
  a70 := Try.isAgg82
  z70 := Try.sizeOf82
  v70 := Try.zeroValue82
  t72 := Try.underlying85
  a72 := Try.isAgg85
  z72 := Try.sizeOf85
  v72 := Try.zeroValue85
  t75 := Try.underlying88
  a75 := Try.isAgg88
  z75 := Try.sizeOf88
  v75 := Try.zeroValue88
  t76 := Try.underlying89
  a76 := Try.isAgg89
  z76 := Try.sizeOf89
  v76 := Try.zeroValue89
  t127 := Try.underlying95
  a127 := Try.isAgg95
  z127 := Try.sizeOf95
  v127 := Try.zeroValue95
  t164 := Try.underlying98
  a164 := Try.isAgg98
  z164 := Try.sizeOf98
  v164 := Try.zeroValue98 }
theorem Try.Builder_Extra_156 : Builder.Extra Try.prog Try.lays156_ren := {
  sizeBuilder := by kernel_rfl
  liesBuilder := by kernel_rfl
  t5 := Try.underlying5
  a5 := Try.isAgg5
  z5 := Try.sizeOf5
  v5 := Try.zeroValue5
  infoByte := by kernel_rfl
  cellsByte := by kernel_rfl
  sizeByte := by kernel_rfl
  neB5 := by decide }
open Go.RowKit in
/-- No element: the empty string; the world is as it was. (Whatever the slice's address and capacity: a nil slice too.) (LAID: no walk: one application.) -/
theorem Try.strings_Join_none (a : Option Addr) (c : Nat) (sep : ByteArray) (w : World) :
    Calls Try.prog 32 #[.slice a 0 c, .string sep] w fun e w' => e = .returned (.string ⟨#[]⟩) ∧ w' = w := Any.strings_Join_none Try.lays156 Try.Builder_Extra_156 a c sep w
open Go.RowKit in
/-- strings.Join: "Join concatenates the elements of its first argument to create a single string. The separator string sep is placed between elements in the resulting string.": HOWEVER MANY ELEMENTS. Below the heap's end the world is as it was. (LAID: no walk: one application.) -/
theorem Try.strings_Join (bk o c : Nat) (xs : List ByteArray) (sep : ByteArray) (w : World) (hcells : ∀ (j : Nat) x, xs[j]? = some x → w.cell? ⟨bk, o + j, none⟩ = some (.string x)) (hbk : bk < w.heap.size) (hN : xs.length ≤ 140737488355328) (hcap : xs.length ≤ c) (hlen : (Lib.join (xs.map (·.data.toList)) sep.data.toList).length ≤ 140737488355328) :
    Calls Try.prog 32 #[.slice (some ⟨bk, o, none⟩) xs.length c, .string sep] w fun e w' => e = .returned (.string ⟨(Lib.join (xs.map (·.data.toList)) sep.data.toList).toArray⟩) ∧ Below w.heap.size w w' := Any.strings_Join Try.lays156 Try.Builder_Extra_156 bk o c xs sep w hcells hbk hN hcap hlen
def Try.keys39_ren : Go.Shelf.Ren := ⟨fun | 7 => 39 | 10 => 44 | n => n, fun | 23 => 68 | 26 => 9 | 3 => 46 | 28 => 93 | 0 => 0 | 27 => 92 | 33 => 97 | 4 => 4 | n => n, fun | n => n⟩
theorem Try.keys39 : Go.Proofs.SlLaysZ.n7 Try.prog Try.keys39_ren := {
  mixed := by kernel_rfl
  f7 := ⟨Try.f39.name, by decide, Try.func39.trans (congrArg some (by kernel_rfl))⟩
  f10 := ⟨Try.f44.name, by decide, Try.func44.trans (congrArg some (by kernel_rfl))⟩
  t0 := Try.underlying0
  a0 := Try.isAgg0
  z0 := Try.sizeOf0
  v0 := Try.zeroValue0
  t4 := Try.underlying4
  a4 := Try.isAgg4
  z4 := Try.sizeOf4
  v4 := Try.zeroValue4
  t23 := Try.underlying68
  a23 := Try.isAgg68
  z23 := Try.sizeOf68
  v23 := Try.zeroValue68
  t26 := Try.underlying9
  a26 := Try.isAgg9
  z26 := Try.sizeOf9
  v26 := Try.zeroValue9
  t27 := Try.underlying92
  a27 := Try.isAgg92
  z27 := Try.sizeOf92
  v27 := Try.zeroValue92
  t28 := Try.underlying93
  a28 := Try.isAgg93
  z28 := Try.sizeOf93
  v28 := Try.zeroValue93
  t33 := Try.underlying97
  a33 := Try.isAgg97
  z33 := Try.sizeOf97
  v33 := Try.zeroValue97 }
def Try.sorted38_ren : Go.Shelf.Ren := ⟨fun | 6 => 38 | 8 => 42 | 9 => 43 | 11 => 47 | 13 => 49 | 12 => 48 | 23 => 59 | 24 => 60 | 14 => 50 | 15 => 51 | 16 => 52 | 17 => 53 | 18 => 54 | 19 => 55 | 20 => 56 | 21 => 57 | 22 => 58 | 25 => 61 | 26 => 62 | 27 => 63 | 28 => 64 | 29 => 65 | 30 => 66 | 31 => 67 | n => n, fun | 26 => 9 | 28 => 93 | 24 => 32 | 0 => 0 | 3 => 3 | 37 => 104 | 48 => 114 | 50 => 75 | 4 => 4 | 40 => 107 | 39 => 106 | 45 => 24 | 5 => 5 | 9 => 9 | 51 => 116 | 55 => 120 | 57 => 122 | 58 => 123 | 33 => 97 | n => n, fun | n => n⟩
theorem Try.sorted38 : Go.Proofs.SlLaysZ.n6 Try.prog Try.sorted38_ren := {
  mixed := by kernel_rfl
  f6 := ⟨Try.f38.name, by decide, Try.func38.trans (congrArg some (by kernel_rfl))⟩
  f8 := ⟨Try.f42.name, by decide, Try.func42.trans (congrArg some (by kernel_rfl))⟩
  f11 := ⟨Try.f47.name, by decide, Try.func47.trans (congrArg some (by kernel_rfl))⟩
  t0 := Try.underlying0
  a0 := Try.isAgg0
  z0 := Try.sizeOf0
  v0 := Try.zeroValue0
  t24 := Try.underlying32
  a24 := Try.isAgg32
  z24 := Try.sizeOf32
  v24 := Try.zeroValue32
  t26 := Try.underlying9
  a26 := Try.isAgg9
  z26 := Try.sizeOf9
  v26 := Try.zeroValue9
  t28 := Try.underlying93
  a28 := Try.isAgg93
  z28 := Try.sizeOf93
  v28 := Try.zeroValue93
  i26 := by kernel_rfl }
def Try.sort43_ren : Go.Shelf.Ren := ⟨fun | 6 => 43 | 8 => 49 | 9 => 48 | 19 => 59 | 20 => 60 | 21 => 50 | 22 => 51 | 23 => 52 | 24 => 53 | 25 => 54 | 26 => 55 | 27 => 56 | 28 => 57 | 29 => 58 | 36 => 61 | 31 => 62 | 32 => 63 | 37 => 64 | 38 => 65 | 39 => 66 | 41 => 67 | n => n, fun | 27 => 32 | 29 => 9 | 3 => 3 | 32 => 104 | 26 => 32 | 0 => 0 | 44 => 114 | 46 => 75 | 4 => 4 | 36 => 107 | 35 => 106 | 41 => 24 | 5 => 5 | 9 => 9 | 53 => 116 | 57 => 120 | 63 => 122 | 64 => 123 | n => n, fun | n => n⟩
theorem Try.sort43 : Go.Proofs.SlLaysM.n6 Try.prog Try.sort43_ren := {
  mixed := by kernel_rfl
  f6 := ⟨Try.f43.name, by decide, Try.func43.trans (congrArg some (by kernel_rfl))⟩
  f8 := Try.func49.trans (congrArg some (by kernel_rfl))
  f9 := ⟨Try.f48.name, by decide, Try.func48.trans (congrArg some (by kernel_rfl))⟩
  f19 := Try.func59.trans (congrArg some (by kernel_rfl))
  f20 := Try.func60.trans (congrArg some (by kernel_rfl))
  f21 := ⟨Try.f50.name, by decide, Try.func50.trans (congrArg some (by kernel_rfl))⟩
  f22 := ⟨Try.f51.name, by decide, Try.func51.trans (congrArg some (by kernel_rfl))⟩
  f23 := ⟨Try.f52.name, by decide, Try.func52.trans (congrArg some (by kernel_rfl))⟩
  f24 := ⟨Try.f53.name, by decide, Try.func53.trans (congrArg some (by kernel_rfl))⟩
  f25 := ⟨Try.f54.name, by decide, Try.func54.trans (congrArg some (by kernel_rfl))⟩
  f26 := ⟨Try.f55.name, by decide, Try.func55.trans (congrArg some (by kernel_rfl))⟩
  f27 := ⟨Try.f56.name, by decide, Try.func56.trans (congrArg some (by kernel_rfl))⟩
  f28 := ⟨Try.f57.name, by decide, Try.func57.trans (congrArg some (by kernel_rfl))⟩
  f29 := ⟨Try.f58.name, by decide, Try.func58.trans (congrArg some (by kernel_rfl))⟩
  f31 := Try.func62.trans (congrArg some (by kernel_rfl))
  f32 := Try.func63.trans (congrArg some (by kernel_rfl))
  f36 := ⟨Try.f61.name, by decide, Try.func61.trans (congrArg some (by kernel_rfl))⟩
  f37 := ⟨Try.f64.name, by decide, Try.func64.trans (congrArg some (by kernel_rfl))⟩
  f38 := ⟨Try.f65.name, by decide, Try.func65.trans (congrArg some (by kernel_rfl))⟩
  f39 := ⟨Try.f66.name, by decide, Try.func66.trans (congrArg some (by kernel_rfl))⟩
  f41 := ⟨Try.f67.name, by decide, Try.func67.trans (congrArg some (by kernel_rfl))⟩
  t0 := Try.underlying0
  a0 := Try.isAgg0
  z0 := Try.sizeOf0
  v0 := Try.zeroValue0
  t3 := Try.underlying3
  a3 := Try.isAgg3
  z3 := Try.sizeOf3
  v3 := Try.zeroValue3
  t4 := Try.underlying4
  a4 := Try.isAgg4
  z4 := Try.sizeOf4
  v4 := Try.zeroValue4
  t5 := Try.underlying5
  a5 := Try.isAgg5
  z5 := Try.sizeOf5
  v5 := Try.zeroValue5
  t9 := Try.underlying9
  a9 := Try.isAgg9
  z9 := Try.sizeOf9
  v9 := Try.zeroValue9
  t26 := Try.underlying32
  a26 := Try.isAgg32
  z26 := Try.sizeOf32
  v26 := Try.zeroValue32
  t27 := Try.underlying32
  a27 := Try.isAgg32
  z27 := Try.sizeOf32
  v27 := Try.zeroValue32
  t29 := Try.underlying9
  a29 := Try.isAgg9
  z29 := Try.sizeOf9
  v29 := Try.zeroValue9
  t32 := Try.underlying104
  a32 := Try.isAgg104
  z32 := Try.sizeOf104
  v32 := Try.zeroValue104
  t35 := Try.underlying106
  a35 := Try.isAgg106
  z35 := Try.sizeOf106
  v35 := Try.zeroValue106
  t36 := Try.underlying107
  a36 := Try.isAgg107
  z36 := Try.sizeOf107
  v36 := Try.zeroValue107
  t41 := Try.underlying24
  a41 := Try.isAgg24
  z41 := Try.sizeOf24
  v41 := Try.zeroValue24
  t44 := Try.underlying114
  a44 := Try.isAgg114
  z44 := Try.sizeOf114
  v44 := Try.zeroValue114
  t46 := Try.underlying75
  a46 := Try.isAgg75
  z46 := Try.sizeOf75
  v46 := Try.zeroValue75
  t53 := Try.underlying116
  a53 := Try.isAgg116
  z53 := Try.sizeOf116
  v53 := Try.zeroValue116
  t57 := Try.underlying120
  a57 := Try.isAgg120
  z57 := Try.sizeOf120
  v57 := Try.zeroValue120
  t63 := Try.underlying122
  a63 := Try.isAgg122
  z63 := Try.sizeOf122
  v63 := Try.zeroValue122
  t64 := Try.underlying123
  a64 := Try.isAgg123
  z64 := Try.sizeOf123
  v64 := Try.zeroValue123 }
open Go.RowKit Go.Maps Go.Sort Go.Shelf in
/-- slices.Sort's two contracts at this dump, at the fence that asks nothing. -/
theorem Try.sorts38 (m : Nat) : AnyZ.SortsIn Try.prog Try.sorted38_ren Fence.wide m :=
  ⟨fun blk off cap ss W hH hblk hsz => callsIn_wide.2 (AnyM.slices_Sort_string Try.sort43 blk off cap ss W hH hblk hsz),
   fun p cap W => callsIn_wide.2 (AnyM.slices_Sort_string_none Try.sort43 p cap W)⟩

open Go.RowKit Go.Maps Go.Sort Go.Shelf in
/-- **maps.Keys[map[string]*example.com/tabularium/tabularium/registry.Filter,string,*example.com/tabularium/tabularium/registry.Filter], at whatever map, the nil one too:** a function value over ONE NEW BLOCK, which holds the map. -/
theorem Try.maps_Keys_39 (mb : Option Nat) (W : World) : CallsIn Fence.wide 5 Try.prog 39 #[.map mb] W fun e w' => e = .returned (.func (.func 44) #[] #[.pointer (some ⟨W.heap.size, 0, none⟩)]) ∧ w' = W.alloc (.cells #[.map mb] 68) :=
  AnyZ.keys_in Try.keys39 Fence.wide 5 trivial rfl mb W

open Go.RowKit Go.Maps Go.Sort Go.Shelf in
/-- **slices.Sorted[string] AT WHAT maps.Keys[map[string]*example.com/tabularium/tabularium/registry.Filter,string,*example.com/tabularium/tabularium/registry.Filter] HANDED BACK FOR A MAP THAT IS NOT nil** ('w': the world AHEAD of maps.Keys' call): A NEW SLICE THAT HOLDS THE MAP's KEYS, SORTED; nil just where it has none; nothing that lay before has turned. -/
theorem Try.slices_Sorted_keys_38_39 {H : Type} (b nn : Nat) (D0 : DataW H) (R : Value → Option (DataW H × List MemPlace)) (w : World) (hown : w.ownsMap Try.prog 9 R b nn D0) (hmax : Maps.size D0 ≤ maxLen) (hbytes : Maps.size D0 * 16 ≤ 140737488355328) :
    CallsIn Fence.wide 5 Try.prog 38 #[.func (.func 44) #[] #[.pointer (some ⟨w.heap.size, 0, none⟩)]] (w.alloc (.cells #[.map (some b)] 68)) fun e w' => ∃ (v : Value) (ss : List (List UInt8)), e = .returned v ∧ ss.Perm (strKeys D0) ∧
      w'.ownsRow (w.alloc (.cells #[.map (some b)] 68)).heap.size 9 1 v ss.length ((ss.mergeSort (fun x y => decide (x ≤ y))).map encStr) ∧ (v = .slice none 0 0 ↔ ss = []) ∧ Below (w.alloc (.cells #[.map (some b)] 68)).heap.size (w.alloc (.cells #[.map (some b)] 68)) w' := by
  have hbl := hown.lt
  have hseq : SeqGives Fence.wide 2 Try.prog 44 #[.pointer (some ⟨w.heap.size, 0, none⟩)] encStr (fun ss => ss.Perm (strKeys D0)) (Maps.size D0) (w.alloc (.cells #[.map (some b)] 68)) :=
    AnyZ.keys_gives (ρ := Try.keys39_ren) { Try.keys39 with } Fence.wide _ trivial rfl (by omega) w.heap.size b nn D0 _ (by simp) (by simp) (by
      obtain ⟨es, clock, hb, Ft, hs, hD⟩ := hown
      exact ⟨es, clock, (Below.heap_alloc _ _ b hbl).trans hb, Ft, hs, hD⟩)
  exact AnyZ.sorted_in Try.sorted38 Fence.wide 5 trivial trivial trivial trivial rfl (by omega) (Try.sorts38 _) (enters_of Try.func43 (by kernel_rfl) rfl) 44 #[.pointer (some ⟨w.heap.size, 0, none⟩)] trivial (enters_of Try.func44 (by kernel_rfl) rfl) _ _ hmax hbytes _ hseq

open Go.RowKit Go.Maps Go.Sort Go.Shelf in
/-- **.. AND FOR THE nil MAP: nil.** -/
theorem Try.slices_Sorted_keys_nil_38_39 (w : World) :
    CallsIn Fence.wide 5 Try.prog 38 #[.func (.func 44) #[] #[.pointer (some ⟨w.heap.size, 0, none⟩)]] (w.alloc (.cells #[.map none] 68)) fun e w' => ∃ (v : Value) (ss : List (List UInt8)), e = .returned v ∧ ss = [] ∧
      w'.ownsRow (w.alloc (.cells #[.map none] 68)).heap.size 9 1 v ss.length ((ss.mergeSort (fun x y => decide (x ≤ y))).map encStr) ∧ (v = .slice none 0 0 ↔ ss = []) ∧ Below (w.alloc (.cells #[.map none] 68)).heap.size (w.alloc (.cells #[.map none] 68)) w' := by
  have hseq : SeqGives Fence.wide 2 Try.prog 44 #[.pointer (some ⟨w.heap.size, 0, none⟩)] encStr (fun ss : List (List UInt8) => ss = []) 0 (w.alloc (.cells #[.map none] 68)) :=
    AnyZ.keys_gives_nil (ρ := Try.keys39_ren) { Try.keys39 with } Fence.wide _ trivial rfl w.heap.size _ (by simp) (by simp)
  exact AnyZ.sorted_in Try.sorted38 Fence.wide 5 trivial trivial trivial trivial rfl (by omega) (Try.sorts38 _) (enters_of Try.func43 (by kernel_rfl) rfl) 44 #[.pointer (some ⟨w.heap.size, 0, none⟩)] trivial (enters_of Try.func44 (by kernel_rfl) rfl) _ 0 (Nat.zero_le _) (by omega) _ hseq


end Go.Proofs
