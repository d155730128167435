/-
  DERIVED: THE SHELF's CONTRACTS AT THIS DUMP, IN PLAIN WORDS (tools/lay-plain.mjs out of 'TryShelf.lean', which tools/lay-shelf.mjs wrote): THE SAME DECLARATIONS UNDER THE SAME NAMES: 'import', 'namespace', 'open', 'def', 'theorem' AND NOTHING ELSE: no command of the shelf's: FOR A HAND-IN. Each laying: the table of numbers ('.._ren') and one theorem, a field a fact of the dump's own or the kernel's comparison; each contract: ONE APPLICATION.
-/
import Derived.Shelf.Small.Bits
import Derived.Shelf.Small.Strs
import Derived.Shelf.Small.Wraps
import Derived.Shelf.Strconv.Itoa0
import Derived.Shelf.Sort.Plain
import Derived.Ground.Names2Prog
import Derived.Shelf.Slices.Clone
import Derived.Shelf.Slices.CompactI
import Derived.Shelf.Slices.SearchI
import Derived.Shelf.Slices.Cells
import Derived.Shelf.Slices.In.SortNone
import Derived.Ground.SlgnProg
import Derived.Shelf.SlicesE.Clone
import Derived.Ground.SlsfProg
import Derived.Shelf.SlSortCmp.Insertion
import Derived.Shelf.SlSortCmp.SiftDown1
import Derived.Shelf.SlSortCmp.HeapSort1
import Derived.Shelf.SlSortCmp.Insertion1
import Derived.Shelf.SlSortCmp.Median1
import Derived.Shelf.SlSortCmp.Pivot1
import Derived.Shelf.SlSortCmp.ReverseRange1
import Derived.Shelf.SlSortCmp.PartialInsertion1
import Derived.Shelf.SlSortCmp.PartitionEqual1
import Derived.Shelf.SlSortCmp.Partition1
import Derived.Shelf.SlSortCmp.Pdq1
import Derived.Shelf.SlSortCmp.Whole1
import Derived.Shelf.SlSortCmp.NoneTotal
import Derived.Test.Qxb6616383aProg
namespace Go.Proofs
open Go.Shelf
def Try.lays106_ren : Go.Shelf.Ren := ⟨fun | 106 => 31 | 213 => 40 | 265 => 59 | n => n, fun | 9 => 9 | 3 => 3 | n => n, fun | n => n⟩
theorem Try.lays106 : Go.Proofs.Lays.n106 Try.prog Try.lays106_ren := {
  mixed := by kernel_rfl
  f106 := Try.func31.trans (congrArg some (by kernel_rfl))
  f213 := Try.func40.trans (congrArg some (by kernel_rfl))
  f265 := Try.func59.trans (congrArg some (by kernel_rfl))
  t3 := Try.underlying3
  a3 := Try.isAgg3
  z3 := Try.sizeOf3
  v3 := Try.zeroValue3
  t9 := Try.underlying9
  a9 := Try.isAgg9
  z9 := Try.sizeOf9
  v9 := Try.zeroValue9 }
open Go.RowKit in
/-- strings.Compare: "Compare returns an integer comparing two strings lexicographically. The result will be 0 if a == b, -1 if a < b, and +1 if a > b.": IT RETURNS 'Lib.compareBytes a b'; the world is as it was. (LAID: no walk: one application.) -/
theorem Try.strings_Compare (a b : ByteArray) (w : World) :
    Calls Try.prog 31 #[.string a, .string b] w fun e w' => e = .returned (.int .i64 (Lib.compareBytes a.data.toList b.data.toList)) ∧ w' = w := Any.strings_Compare Try.lays106 a b w
def Try.lays189_ren : Go.Shelf.Ren := ⟨fun | 189 => 42 | 125 => 39 | 257 => 60 | 128 => 57 | 129 => 58 | 294 => 74 | 295 => 75 | 296 => 76 | 297 => 77 | 298 => 78 | 299 => 79 | 216 => 80 | 300 => 81 | 301 => 82 | 328 => 91 | 329 => 70 | 330 => 71 | 331 => 92 | 332 => 93 | 215 => 94 | 343 => 95 | n => n, fun | 28 => 26 | 3 => 3 | 46 => 60 | 0 => 0 | 51 => 44 | 53 => 59 | 4 => 4 | 183 => 106 | 182 => 105 | 131 => 79 | 5 => 5 | 9 => 9 | 218 => 121 | 222 => 125 | 228 => 136 | 229 => 137 | n => n, fun | n => n⟩
theorem Try.lays189 : Go.Proofs.Lays.n189 Try.prog Try.lays189_ren := {
  mixed := by kernel_rfl
  f125 := Try.func39.trans (congrArg some (by kernel_rfl))
  f128 := Try.func57.trans (congrArg some (by kernel_rfl))
  f129 := Try.func58.trans (congrArg some (by kernel_rfl))
  f189 := Try.func42.trans (congrArg some (by kernel_rfl))
  f215 := Try.func94.trans (congrArg some (by kernel_rfl))
  f216 := Try.func80.trans (congrArg some (by kernel_rfl))
  f257 := Try.func60.trans (congrArg some (by kernel_rfl))
  f294 := Try.func74.trans (congrArg some (by kernel_rfl))
  f295 := Try.func75.trans (congrArg some (by kernel_rfl))
  f296 := Try.func76.trans (congrArg some (by kernel_rfl))
  f297 := Try.func77.trans (congrArg some (by kernel_rfl))
  f298 := Try.func78.trans (congrArg some (by kernel_rfl))
  f299 := Try.func79.trans (congrArg some (by kernel_rfl))
  f300 := Try.func81.trans (congrArg some (by kernel_rfl))
  f301 := Try.func82.trans (congrArg some (by kernel_rfl))
  f328 := Try.func91.trans (congrArg some (by kernel_rfl))
  f329 := Try.func70.trans (congrArg some (by kernel_rfl))
  f330 := Try.func71.trans (congrArg some (by kernel_rfl))
  f331 := Try.func92.trans (congrArg some (by kernel_rfl))
  f332 := Try.func93.trans (congrArg some (by kernel_rfl))
  f343 := Try.func95.trans (congrArg some (by kernel_rfl))
  t0 := Try.underlying0
  a0 := Try.isAgg0
  z0 := Try.sizeOf0
  v0 := Try.zeroValue0
  t3 := Try.underlying3
  a3 := Try.isAgg3
  z3 := Try.sizeOf3
  v3 := Try.zeroValue3
  t4 := Try.underlying4
  a4 := Try.isAgg4
  z4 := Try.sizeOf4
  v4 := Try.zeroValue4
  t5 := Try.underlying5
  a5 := Try.isAgg5
  z5 := Try.sizeOf5
  v5 := Try.zeroValue5
  t9 := Try.underlying9
  a9 := Try.isAgg9
  z9 := Try.sizeOf9
  v9 := Try.zeroValue9
  t28 := Try.underlying26
  a28 := Try.isAgg26
  z28 := Try.sizeOf26
  v28 := Try.zeroValue26
  t46 := Try.underlying60
  a46 := Try.isAgg60
  z46 := Try.sizeOf60
  v46 := Try.zeroValue60
  t51 := Try.underlying44
  a51 := Try.isAgg44
  z51 := Try.sizeOf44
  v51 := Try.zeroValue44
  t53 := Try.underlying59
  a53 := Try.isAgg59
  z53 := Try.sizeOf59
  v53 := Try.zeroValue59
  t131 := Try.underlying79
  a131 := Try.isAgg79
  z131 := Try.sizeOf79
  v131 := Try.zeroValue79
  t182 := Try.underlying105
  a182 := Try.isAgg105
  z182 := Try.sizeOf105
  v182 := Try.zeroValue105
  t183 := Try.underlying106
  a183 := Try.isAgg106
  z183 := Try.sizeOf106
  v183 := Try.zeroValue106
  t218 := Try.underlying121
  a218 := Try.isAgg121
  z218 := Try.sizeOf121
  v218 := Try.zeroValue121
  t222 := Try.underlying125
  a222 := Try.isAgg125
  z222 := Try.sizeOf125
  v222 := Try.zeroValue125
  t228 := Try.underlying136
  a228 := Try.isAgg136
  z228 := Try.sizeOf136
  v228 := Try.zeroValue136
  t229 := Try.underlying137
  a229 := Try.isAgg137
  z229 := Try.sizeOf137
  v229 := Try.zeroValue137 }
open Go.Sort Go.RowKit in
theorem Try.slices_Sort_int (blk off cap : Nat) (zs : List Int) (w : World) (hH : Holds (Value.int .i64) w blk off zs.toArray) (hblk : blk < w.heap.size) (hsz : zs.length < 4611686018427387904) :
    Calls Try.prog 42 #[.slice (some ⟨blk, off, none⟩) zs.length cap] w fun e w' =>
      e = .returned (.tuple #[]) ∧ ∃ n os, w' = grow (putRow (Value.int .i64) (Sort.ahead w n) blk off (zs.mergeSort fun x y => decide (x ≤ y)).toArray) os := Any.slices_Sort_int Try.lays189 blk off cap zs w hH hblk hsz
def Try.laysNm215_ren : Go.Shelf.Ren := ⟨fun | 15 => 41 | n => n, fun | 22 => 26 | 3 => 3 | 4 => 4 | n => n, fun | n => n⟩
theorem Try.laysNm215 : Go.Proofs.Lays2.n15 Try.prog Try.laysNm215_ren := {
  mixed := by kernel_rfl
  f15 := Try.func41.trans (congrArg some (by kernel_rfl))
  t3 := Try.underlying3
  a3 := Try.isAgg3
  z3 := Try.sizeOf3
  v3 := Try.zeroValue3
  t4 := Try.underlying4
  a4 := Try.isAgg4
  z4 := Try.sizeOf4
  v4 := Try.zeroValue4
  t22 := Try.underlying26
  a22 := Try.isAgg26
  z22 := Try.sizeOf26
  v22 := Try.zeroValue26
  i3 := by kernel_rfl }
open Go.RowKit Go.Lib in
/-- slices.Clone at []int: "Clone returns a copy of the slice. The elements are copied using assignment, so this is a shallow clone. The result may have additional unused capacity. The result preserves the nilness of s.": OF A SLICE THAT IS NOT nil IT RETURNS A SLICE THAT IS NOT nil, OF THE SAME ELEMENTS, IN MEMORY OF THE CALL's OWN: in the how-to's words (6f): 'w'.ownsRow B e 1 v' n cells': v' begins at the head of a row among the blocks from B on (B: the heap's size at the call), not frozen, whose first cells are the elements · 'Below B w w'': below B all is as it was. The capacity is whatever the run-time gives. 'zs': what the cells behind the slice's address hold; 'zs.take n': its elements. (LAID: no walk: one application.) -/
theorem Try.slices_Clone_int (b off n c : Nat) (zs : List Int) (w : World) (hz : n ≤ zs.length) (hbig : n * 8 ≤ 140737488355328) (hc : ∀ j, j < zs.length → w.cell? ⟨b, off + j, none⟩ = some (.int .i64 (zs.getD j 0))) :
    Calls Try.prog 41 #[.slice (some ⟨b, off, none⟩) n c] w fun e w' => ∃ v', e = .returned v' ∧ w'.ownsRow w.heap.size 3 1 v' n ((zs.take n).map (Value.int .i64)) ∧ v' ≠ .slice none 0 0 ∧ Below w.heap.size w w' := Any.slices_Clone_int Try.laysNm215 b off n c zs w hz hbig hc
open Go.RowKit Go.Lib in
/-- The same at nil: nil comes back; the world is as it was. (LAID: no walk: one application.) -/
theorem Try.slices_Clone_int_nil (n c : Nat) (w : World) :
    Calls Try.prog 41 #[.slice none n c] w fun e w' => e = .returned (.slice none 0 0) ∧ w' = w := Any.slices_Clone_int_nil Try.laysNm215 n c w
open Go.RowKit Go.Lib in
/-- The same at a slice of length 0 that is not nil, WHATEVER ITS ADDRESS (no cell is asked for): a slice that is not nil and owns nothing comes back. (LAID: no walk: one application.) -/
theorem Try.slices_Clone_int_zero (a : Addr) (c : Nat) (w : World) :
    Calls Try.prog 41 #[.slice (some a) 0 c] w fun e w' => ∃ v', e = .returned v' ∧ w'.ownsRow w.heap.size 3 1 v' 0 [] ∧ v' ≠ .slice none 0 0 ∧ Below w.heap.size w w' := Any.slices_Clone_int_zero Try.laysNm215 a c w
def Try.laysNm220_ren : Go.Shelf.Ren := ⟨fun | 20 => 43 | n => n, fun | 22 => 26 | 3 => 3 | 4 => 4 | 0 => 0 | n => n, fun | n => n⟩
theorem Try.laysNm220 : Go.Proofs.Lays2.n20 Try.prog Try.laysNm220_ren := {
  mixed := by kernel_rfl
  f20 := Try.func43.trans (congrArg some (by kernel_rfl))
  t0 := Try.underlying0
  a0 := Try.isAgg0
  z0 := Try.sizeOf0
  v0 := Try.zeroValue0
  t3 := Try.underlying3
  a3 := Try.isAgg3
  z3 := Try.sizeOf3
  v3 := Try.zeroValue3
  t4 := Try.underlying4
  a4 := Try.isAgg4
  z4 := Try.sizeOf4
  v4 := Try.zeroValue4
  t22 := Try.underlying26
  a22 := Try.isAgg26
  z22 := Try.sizeOf26
  v22 := Try.zeroValue26
  i3 := by kernel_rfl }
open Go.RowKit Go.Lib Go.Sort in
/-- slices.Compact at []int: "Compact replaces consecutive runs of equal elements with a single copy. This is like the uniq command found on Unix. Compact modifies the contents of the slice s and returns the modified slice, which may have a smaller length. Compact zeroes the elements between the new length and the original length. The result preserves the nilness of s.": IT RETURNS THE SLICE CUT TO 'Lib.compact zs'; ITS CELLS HOLD 'Lib.compact zs', THEN ZERO VALUES up to the old length; all else is as it was, but for the count of draws. IN THE WORDS OF slices.Sort's CONTRACT ('Holds', 'putRow'): so the everyday 'slices.Sort(xs); xs = slices.Compact(xs)' goes from the one contract to the other. It asks 'zs.length ≤ cap' (every slice's: the reslicing 's[:k]' looks at it). Length 0, nil: '.._empty'. (LAID: no walk: one application.) -/
theorem Try.slices_Compact_int (blk off cap : Nat) (zs : List Int) (w : World) (hH : Holds (Value.int .i64) w blk off zs.toArray) (hsz : zs.length ≤ 9223372036854775807) (hcap : zs.length ≤ cap) :
    Calls Try.prog 43 #[.slice (some ⟨blk, off, none⟩) zs.length cap] w fun e w' => e = .returned (.slice (some ⟨blk, off, none⟩) (Lib.compact zs).length cap) ∧ ∃ q, w' = putRow (Value.int .i64) (Sort.ahead w q) blk off (Lib.compact zs ++ List.replicate (zs.length - (Lib.compact zs).length) 0).toArray := Any.slices_Compact_int Try.laysNm220 blk off cap zs w hH hsz hcap
open Go.RowKit Go.Lib Go.Sort in
/-- The same at a slice of length 0, a nil one too: it comes back as it is. (LAID: no walk: one application.) -/
theorem Try.slices_Compact_int_empty (a : Option Addr) (cap : Nat) (w : World) :
    Calls Try.prog 43 #[.slice a 0 cap] w fun e w' => e = .returned (.slice a 0 cap) ∧ w' = w := Any.slices_Compact_int_empty Try.laysNm220 a cap w
open Go.RowKit Go.Sort in
/-- .. and plain. (LAID: no walk: one application.) -/
theorem Try.slices_Sort_int_none (p : Option Addr) (cap : Nat) (w : World) :
    Calls Try.prog 42 #[.slice p 0 cap] w fun e w' => e = .returned (.tuple #[]) ∧ w' = w := Any.slices_Sort_int_none Try.lays189 p cap w
def Try.laysSlF6_f29_ren : Go.Shelf.Ren := ⟨fun | 6 => 29 | 15 => 39 | 14 => 38 | 28 => 57 | 29 => 58 | 20 => 49 | 21 => 50 | 22 => 51 | 23 => 52 | 24 => 53 | 25 => 54 | 26 => 55 | 27 => 56 | 46 => 69 | 47 => 70 | 48 => 71 | 49 => 72 | 50 => 73 | 57 => 90 | n => n, fun | 22 => 26 | 24 => 3 | 25 => 85 | 3 => 3 | 39 => 60 | 0 => 0 | 53 => 44 | 55 => 59 | 4 => 4 | 46 => 106 | 45 => 105 | 50 => 79 | 5 => 5 | 9 => 9 | 66 => 121 | 70 => 125 | 76 => 136 | 77 => 137 | n => n, fun | n => n⟩
theorem Try.laysSlF6_f29 : Go.Proofs.SlLaysF.n6 Try.prog Try.laysSlF6_f29_ren := {
  mixed := by kernel_rfl
  f6 := ⟨Try.f29.name, by decide, Try.func29.trans (congrArg some (by kernel_rfl))⟩
  f14 := ⟨Try.f38.name, by decide, Try.func38.trans (congrArg some (by kernel_rfl))⟩
  f15 := Try.func39.trans (congrArg some (by kernel_rfl))
  f20 := ⟨Try.f49.name, by decide, Try.func49.trans (congrArg some (by kernel_rfl))⟩
  f21 := ⟨Try.f50.name, by decide, Try.func50.trans (congrArg some (by kernel_rfl))⟩
  f22 := ⟨Try.f51.name, by decide, Try.func51.trans (congrArg some (by kernel_rfl))⟩
  f23 := ⟨Try.f52.name, by decide, Try.func52.trans (congrArg some (by kernel_rfl))⟩
  f24 := ⟨Try.f53.name, by decide, Try.func53.trans (congrArg some (by kernel_rfl))⟩
  f25 := ⟨Try.f54.name, by decide, Try.func54.trans (congrArg some (by kernel_rfl))⟩
  f26 := ⟨Try.f55.name, by decide, Try.func55.trans (congrArg some (by kernel_rfl))⟩
  f27 := ⟨Try.f56.name, by decide, Try.func56.trans (congrArg some (by kernel_rfl))⟩
  f28 := Try.func57.trans (congrArg some (by kernel_rfl))
  f29 := Try.func58.trans (congrArg some (by kernel_rfl))
  f46 := ⟨Try.f69.name, by decide, Try.func69.trans (congrArg some (by kernel_rfl))⟩
  f47 := Try.func70.trans (congrArg some (by kernel_rfl))
  f48 := Try.func71.trans (congrArg some (by kernel_rfl))
  f49 := ⟨Try.f72.name, by decide, Try.func72.trans (congrArg some (by kernel_rfl))⟩
  f50 := ⟨Try.f73.name, by decide, Try.func73.trans (congrArg some (by kernel_rfl))⟩
  f57 := ⟨Try.f90.name, by decide, Try.func90.trans (congrArg some (by kernel_rfl))⟩
  t0 := Try.underlying0
  a0 := Try.isAgg0
  z0 := Try.sizeOf0
  v0 := Try.zeroValue0
  t3 := Try.underlying3
  a3 := Try.isAgg3
  z3 := Try.sizeOf3
  v3 := Try.zeroValue3
  t4 := Try.underlying4
  a4 := Try.isAgg4
  z4 := Try.sizeOf4
  v4 := Try.zeroValue4
  t5 := Try.underlying5
  a5 := Try.isAgg5
  z5 := Try.sizeOf5
  v5 := Try.zeroValue5
  t9 := Try.underlying9
  a9 := Try.isAgg9
  z9 := Try.sizeOf9
  v9 := Try.zeroValue9
  t22 := Try.underlying26
  a22 := Try.isAgg26
  z22 := Try.sizeOf26
  v22 := Try.zeroValue26
  a24 := Try.isAgg3
  z24 := Try.sizeOf3
  t25 := Try.underlying85
  a25 := Try.isAgg85
  z25 := Try.sizeOf85
  v25 := Try.zeroValue85
  t39 := Try.underlying60
  a39 := Try.isAgg60
  z39 := Try.sizeOf60
  v39 := Try.zeroValue60
  t45 := Try.underlying105
  a45 := Try.isAgg105
  z45 := Try.sizeOf105
  v45 := Try.zeroValue105
  t46 := Try.underlying106
  a46 := Try.isAgg106
  z46 := Try.sizeOf106
  v46 := Try.zeroValue106
  t50 := Try.underlying79
  a50 := Try.isAgg79
  z50 := Try.sizeOf79
  v50 := Try.zeroValue79
  t53 := Try.underlying44
  a53 := Try.isAgg44
  z53 := Try.sizeOf44
  v53 := Try.zeroValue44
  t55 := Try.underlying59
  a55 := Try.isAgg59
  z55 := Try.sizeOf59
  v55 := Try.zeroValue59
  t66 := Try.underlying121
  a66 := Try.isAgg121
  z66 := Try.sizeOf121
  v66 := Try.zeroValue121
  t70 := Try.underlying125
  a70 := Try.isAgg125
  z70 := Try.sizeOf125
  v70 := Try.zeroValue125
  t76 := Try.underlying136
  a76 := Try.isAgg136
  z76 := Try.sizeOf136
  v76 := Try.zeroValue136
  t77 := Try.underlying137
  a77 := Try.isAgg137
  z77 := Try.sizeOf137
  v77 := Try.zeroValue137 }
open Go.RowKit Go.Lib Go.Sort in
/-- **slices.SortFunc, IN THE DOCUMENTATION's OWN TERMS: A PERMUTATION OF WHAT THE ROW HELD, SORTED BY 'cmp(a, b) < 0'.** Which of two equals comes first is left open ("The sort is not guaranteed to be stable"). (LAID AT THE INSTANCE 'slices.SortFunc[[]int,int]': no walk: one application.) -/
theorem Try.slices_SortFunc {α : Type} [Inhabited α] (enc : α → Value) (h1 : OneCell enc) (cf : α → α → Int) (hO : SWO (ltOf cf)) (g : Nat) (cb : Array Value) (blk off cap : Nat) (d : Array α) (w : World) (eg : ∀ args w, (callFunc g args).run Try.prog w = .ok (.enter g args) w) (hcmp : CmpLays1 Try.prog g cb enc cf blk off d.size w) (hH : Holds enc w blk off d) (hblk : blk < w.heap.size) (hsz : d.size < 4611686018427387904) :
    Calls Try.prog 29 #[.slice (some ⟨blk, off, none⟩) d.size cap, .func (.func g) #[] cb] w fun e w' =>
      e = .returned (.tuple #[]) ∧ ∃ d' n os, PermIn 0 d.size d d' ∧ SortedIn (ltOf cf) 0 d.size d' ∧ w' = sortWorld enc w blk off n d' os := Any.slices_SortFunc Try.laysSlF6_f29 enc h1 cf hO g cb blk off cap d w eg hcmp hH hblk hsz
def Try.laysSlF06_f29_ren : Go.Shelf.Ren := ⟨fun | 6 => 29 | 15 => 39 | 14 => 38 | 28 => 57 | 29 => 58 | 20 => 49 | 21 => 50 | 22 => 51 | 23 => 52 | 24 => 53 | 25 => 54 | 26 => 55 | 27 => 56 | 46 => 69 | 47 => 70 | 48 => 71 | 49 => 72 | 50 => 73 | 57 => 90 | n => n, fun | 22 => 26 | 24 => 3 | 25 => 85 | 3 => 3 | 39 => 60 | 0 => 0 | 53 => 44 | 55 => 59 | 4 => 4 | 46 => 106 | 45 => 105 | 50 => 79 | 5 => 5 | 9 => 9 | 66 => 121 | 70 => 125 | 76 => 136 | 77 => 137 | n => n, fun | n => n⟩
theorem Try.laysSlF06_f29 : Go.Proofs.SlLaysF0.n6 Try.prog Try.laysSlF06_f29_ren := {
  mixed := by kernel_rfl
  f6 := ⟨Try.f29.name, by decide, Try.func29.trans (congrArg some (by kernel_rfl))⟩
  f14 := ⟨Try.f38.name, by decide, Try.func38.trans (congrArg some (by kernel_rfl))⟩
  f15 := Try.func39.trans (congrArg some (by kernel_rfl))
  f20 := ⟨Try.f49.name, by decide, Try.func49.trans (congrArg some (by kernel_rfl))⟩
  f21 := ⟨Try.f50.name, by decide, Try.func50.trans (congrArg some (by kernel_rfl))⟩
  f22 := ⟨Try.f51.name, by decide, Try.func51.trans (congrArg some (by kernel_rfl))⟩
  f23 := ⟨Try.f52.name, by decide, Try.func52.trans (congrArg some (by kernel_rfl))⟩
  f24 := ⟨Try.f53.name, by decide, Try.func53.trans (congrArg some (by kernel_rfl))⟩
  f25 := ⟨Try.f54.name, by decide, Try.func54.trans (congrArg some (by kernel_rfl))⟩
  f26 := ⟨Try.f55.name, by decide, Try.func55.trans (congrArg some (by kernel_rfl))⟩
  f27 := ⟨Try.f56.name, by decide, Try.func56.trans (congrArg some (by kernel_rfl))⟩
  f28 := Try.func57.trans (congrArg some (by kernel_rfl))
  f29 := Try.func58.trans (congrArg some (by kernel_rfl))
  f46 := ⟨Try.f69.name, by decide, Try.func69.trans (congrArg some (by kernel_rfl))⟩
  f47 := Try.func70.trans (congrArg some (by kernel_rfl))
  f48 := Try.func71.trans (congrArg some (by kernel_rfl))
  f49 := ⟨Try.f72.name, by decide, Try.func72.trans (congrArg some (by kernel_rfl))⟩
  f50 := ⟨Try.f73.name, by decide, Try.func73.trans (congrArg some (by kernel_rfl))⟩
  f57 := ⟨Try.f90.name, by decide, Try.func90.trans (congrArg some (by kernel_rfl))⟩
  t0 := Try.underlying0
  a0 := Try.isAgg0
  z0 := Try.sizeOf0
  v0 := Try.zeroValue0
  t3 := Try.underlying3
  a3 := Try.isAgg3
  z3 := Try.sizeOf3
  v3 := Try.zeroValue3
  t4 := Try.underlying4
  a4 := Try.isAgg4
  z4 := Try.sizeOf4
  v4 := Try.zeroValue4
  t5 := Try.underlying5
  a5 := Try.isAgg5
  z5 := Try.sizeOf5
  v5 := Try.zeroValue5
  t9 := Try.underlying9
  a9 := Try.isAgg9
  z9 := Try.sizeOf9
  v9 := Try.zeroValue9
  t22 := Try.underlying26
  a22 := Try.isAgg26
  z22 := Try.sizeOf26
  v22 := Try.zeroValue26
  t25 := Try.underlying85
  a25 := Try.isAgg85
  z25 := Try.sizeOf85
  v25 := Try.zeroValue85
  t39 := Try.underlying60
  a39 := Try.isAgg60
  z39 := Try.sizeOf60
  v39 := Try.zeroValue60
  t45 := Try.underlying105
  a45 := Try.isAgg105
  z45 := Try.sizeOf105
  v45 := Try.zeroValue105
  t46 := Try.underlying106
  a46 := Try.isAgg106
  z46 := Try.sizeOf106
  v46 := Try.zeroValue106
  t50 := Try.underlying79
  a50 := Try.isAgg79
  z50 := Try.sizeOf79
  v50 := Try.zeroValue79
  t53 := Try.underlying44
  a53 := Try.isAgg44
  z53 := Try.sizeOf44
  v53 := Try.zeroValue44
  t55 := Try.underlying59
  a55 := Try.isAgg59
  z55 := Try.sizeOf59
  v55 := Try.zeroValue59
  t66 := Try.underlying121
  a66 := Try.isAgg121
  z66 := Try.sizeOf121
  v66 := Try.zeroValue121
  t70 := Try.underlying125
  a70 := Try.isAgg125
  z70 := Try.sizeOf125
  v70 := Try.zeroValue125
  t76 := Try.underlying136
  a76 := Try.isAgg136
  z76 := Try.sizeOf136
  v76 := Try.zeroValue136
  t77 := Try.underlying137
  a77 := Try.isAgg137
  z77 := Try.sizeOf137
  v77 := Try.zeroValue137 }
open Go.RowKit Go.Lib Go.Sort in
/-- **slices.SortFunc AT NO ELEMENT, A nil SLICE TOO: nothing turns.** (LAID AT THE INSTANCE 'slices.SortFunc[[]int,int]': no walk: one application.) -/
theorem Try.slices_SortFunc_none {α : Type} [Inhabited α] (p : Option Addr) (cap : Nat) (fv : Value) (w : World) :
    Calls Try.prog 29 #[.slice p 0 cap, fv] w fun e w' => e = .returned (.tuple #[]) ∧ w' = w := AnyF.slices_SortFunc_none Try.laysSlF06_f29 p cap fv w
end Go.Proofs
