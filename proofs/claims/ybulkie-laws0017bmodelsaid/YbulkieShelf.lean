/-
  DERIVED: THE SHELF's CONTRACTS AT THIS DUMP, IN PLAIN WORDS (tools/lay-plain.mjs out of 'YbulkieShelf.lean', which tools/lay-shelf.mjs wrote): THE SAME DECLARATIONS UNDER THE SAME NAMES: 'import', 'namespace', 'open', 'def', 'theorem' AND NOTHING ELSE: no command of the shelf's: FOR A HAND-IN. Each laying: the table of numbers ('.._ren') and one theorem, a field a fact of the dump's own or the kernel's comparison; each contract: ONE APPLICATION.
-/
import Derived.Shelf.Sort.Plain
import Derived.Shelf.Slices.Equal
import Derived.Ground.Names2Prog
import Derived.Shelf.Slices.Clone
import Derived.Shelf.Slices.CompactI
import Derived.Shelf.Slices.In.SortNone
import Derived.Ground.SlgnProg
import Derived.Shelf.SlicesE.Index
import Derived.Test.YbulkieProg
namespace Go.Proofs
open Go.Shelf
def Yba.lays189_ren : Go.Shelf.Ren := ⟨fun | 189 => 43 | 125 => 53 | 257 => 52 | 128 => 69 | 129 => 70 | 294 => 60 | 295 => 61 | 296 => 62 | 297 => 63 | 298 => 64 | 299 => 65 | 216 => 66 | 300 => 67 | 301 => 68 | 328 => 86 | 329 => 87 | 330 => 88 | 331 => 89 | 332 => 90 | 215 => 91 | 343 => 100 | n => n, fun | 28 => 89 | 3 => 3 | 46 => 34 | 0 => 0 | 51 => 92 | 53 => 154 | 4 => 4 | 183 => 167 | 182 => 166 | 131 => 125 | 5 => 5 | 9 => 9 | 218 => 183 | 222 => 187 | 228 => 198 | 229 => 199 | n => n, fun | n => n⟩
theorem Yba.lays189 : Go.Proofs.Lays.n189 Yba.prog Yba.lays189_ren := {
  mixed := by kernel_rfl
  f125 := Yba.func53.trans (congrArg some (by kernel_rfl))
  f128 := Yba.func69.trans (congrArg some (by kernel_rfl))
  f129 := Yba.func70.trans (congrArg some (by kernel_rfl))
  f189 := Yba.func43.trans (congrArg some (by kernel_rfl))
  f215 := Yba.func91.trans (congrArg some (by kernel_rfl))
  f216 := Yba.func66.trans (congrArg some (by kernel_rfl))
  f257 := Yba.func52.trans (congrArg some (by kernel_rfl))
  f294 := Yba.func60.trans (congrArg some (by kernel_rfl))
  f295 := Yba.func61.trans (congrArg some (by kernel_rfl))
  f296 := Yba.func62.trans (congrArg some (by kernel_rfl))
  f297 := Yba.func63.trans (congrArg some (by kernel_rfl))
  f298 := Yba.func64.trans (congrArg some (by kernel_rfl))
  f299 := Yba.func65.trans (congrArg some (by kernel_rfl))
  f300 := Yba.func67.trans (congrArg some (by kernel_rfl))
  f301 := Yba.func68.trans (congrArg some (by kernel_rfl))
  f328 := Yba.func86.trans (congrArg some (by kernel_rfl))
  f329 := Yba.func87.trans (congrArg some (by kernel_rfl))
  f330 := Yba.func88.trans (congrArg some (by kernel_rfl))
  f331 := Yba.func89.trans (congrArg some (by kernel_rfl))
  f332 := Yba.func90.trans (congrArg some (by kernel_rfl))
  f343 := Yba.func100.trans (congrArg some (by kernel_rfl))
  t0 := Yba.underlying0
  a0 := Yba.isAgg0
  z0 := Yba.sizeOf0
  v0 := Yba.zeroValue0
  t3 := Yba.underlying3
  a3 := Yba.isAgg3
  z3 := Yba.sizeOf3
  v3 := Yba.zeroValue3
  t4 := Yba.underlying4
  a4 := Yba.isAgg4
  z4 := Yba.sizeOf4
  v4 := Yba.zeroValue4
  t5 := Yba.underlying5
  a5 := Yba.isAgg5
  z5 := Yba.sizeOf5
  v5 := Yba.zeroValue5
  t9 := Yba.underlying9
  a9 := Yba.isAgg9
  z9 := Yba.sizeOf9
  v9 := Yba.zeroValue9
  t28 := Yba.underlying89
  a28 := Yba.isAgg89
  z28 := Yba.sizeOf89
  v28 := Yba.zeroValue89
  t46 := Yba.underlying34
  a46 := Yba.isAgg34
  z46 := Yba.sizeOf34
  v46 := Yba.zeroValue34
  t51 := Yba.underlying92
  a51 := Yba.isAgg92
  z51 := Yba.sizeOf92
  v51 := Yba.zeroValue92
  t53 := Yba.underlying154
  a53 := Yba.isAgg154
  z53 := Yba.sizeOf154
  v53 := Yba.zeroValue154
  t131 := Yba.underlying125
  a131 := Yba.isAgg125
  z131 := Yba.sizeOf125
  v131 := Yba.zeroValue125
  t182 := Yba.underlying166
  a182 := Yba.isAgg166
  z182 := Yba.sizeOf166
  v182 := Yba.zeroValue166
  t183 := Yba.underlying167
  a183 := Yba.isAgg167
  z183 := Yba.sizeOf167
  v183 := Yba.zeroValue167
  t218 := Yba.underlying183
  a218 := Yba.isAgg183
  z218 := Yba.sizeOf183
  v218 := Yba.zeroValue183
  t222 := Yba.underlying187
  a222 := Yba.isAgg187
  z222 := Yba.sizeOf187
  v222 := Yba.zeroValue187
  t228 := Yba.underlying198
  a228 := Yba.isAgg198
  z228 := Yba.sizeOf198
  v228 := Yba.zeroValue198
  t229 := Yba.underlying199
  a229 := Yba.isAgg199
  z229 := Yba.sizeOf199
  v229 := Yba.zeroValue199 }
open Go.Sort Go.RowKit in
theorem Yba.slices_Sort_int (blk off cap : Nat) (zs : List Int) (w : World) (hH : Holds (Value.int .i64) w blk off zs.toArray) (hblk : blk < w.heap.size) (hsz : zs.length < 4611686018427387904) :
    Calls Yba.prog 43 #[.slice (some ⟨blk, off, none⟩) zs.length cap] w fun e w' =>
      e = .returned (.tuple #[]) ∧ ∃ n os, w' = grow (putRow (Value.int .i64) (Sort.ahead w n) blk off (zs.mergeSort fun x y => decide (x ≤ y)).toArray) os := Any.slices_Sort_int Yba.lays189 blk off cap zs w hH hblk hsz
def Yba.lays193_ren : Go.Shelf.Ren := ⟨fun | 193 => 18 | n => n, fun | 31 => 40 | 9 => 9 | 4 => 4 | 3 => 3 | 0 => 0 | n => n, fun | n => n⟩
theorem Yba.lays193 : Go.Proofs.Lays.n193 Yba.prog Yba.lays193_ren := {
  mixed := by kernel_rfl
  f193 := Yba.func18.trans (congrArg some (by kernel_rfl))
  t0 := Yba.underlying0
  a0 := Yba.isAgg0
  z0 := Yba.sizeOf0
  v0 := Yba.zeroValue0
  t3 := Yba.underlying3
  a3 := Yba.isAgg3
  z3 := Yba.sizeOf3
  v3 := Yba.zeroValue3
  t4 := Yba.underlying4
  a4 := Yba.isAgg4
  z4 := Yba.sizeOf4
  v4 := Yba.zeroValue4
  t9 := Yba.underlying9
  a9 := Yba.isAgg9
  z9 := Yba.sizeOf9
  v9 := Yba.zeroValue9
  t31 := Yba.underlying40
  a31 := Yba.isAgg40
  z31 := Yba.sizeOf40
  v31 := Yba.zeroValue40 }
open Go.RowKit Go.Lib in
/-- slices.Equal at []string: "Equal reports whether two slices are equal: the same length and all elements equal. If the lengths are different, Equal returns false. Otherwise, the elements are compared in increasing index order, and the comparison stops at the first unequal pair. Empty and nil slices are considered equal.": IT RETURNS WHETHER THE TWO LISTS OF ELEMENTS ARE ONE; the world is as it was but for the count of draws (the test 's1[i] != s2[i]' has two reads, whose order the model draws, once a round). 'xs', 'ys': what the cells behind the two addresses hold (the spare capacity too, if you have it); 'xs.take n', 'ys.take m': the elements. THE TWO SLICES MAY OVERLAP. (LAID: no walk: one application.) -/
theorem Yba.slices_Equal_string (b1 o1 n c b2 o2 m d : Nat) (xs ys : List ByteArray) (w : World) (hx : n ≤ xs.length) (hy : m ≤ ys.length) (hbig : n ≤ 9223372036854775807) (hbig2 : m ≤ 9223372036854775807) (hc1 : ∀ j, j < xs.length → w.cell? ⟨b1, o1 + j, none⟩ = some (.string (xs.getD j ByteArray.empty))) (hc2 : ∀ j, j < ys.length → w.cell? ⟨b2, o2 + j, none⟩ = some (.string (ys.getD j ByteArray.empty))) :
    Calls Yba.prog 18 #[.slice (some ⟨b1, o1, none⟩) n c, .slice (some ⟨b2, o2, none⟩) m d] w fun e w' => e = .returned (.bool (decide (xs.take n = ys.take m))) ∧ ∃ q, w' = w.drewN q := Any.slices_Equal_string Yba.lays193 b1 o1 n c b2 o2 m d xs ys w hx hy hbig hbig2 hc1 hc2
open Go.RowKit Go.Lib in
/-- The same where the first is of length 0 (a nil one too): no cell is asked for. (LAID: no walk: one application.) -/
theorem Yba.slices_Equal_string_empty (a1 a2 : Option Addr) (c m d : Nat) (w : World) (hbig2 : m ≤ 9223372036854775807) :
    Calls Yba.prog 18 #[.slice a1 0 c, .slice a2 m d] w fun e w' => e = .returned (.bool (decide (m = 0))) ∧ w' = w := Any.slices_Equal_string_empty Yba.lays193 a1 a2 c m d w hbig2
def Yba.laysNm215_ren : Go.Shelf.Ren := ⟨fun | 15 => 13 | n => n, fun | 22 => 89 | 3 => 3 | 4 => 4 | n => n, fun | n => n⟩
theorem Yba.laysNm215 : Go.Proofs.Lays2.n15 Yba.prog Yba.laysNm215_ren := {
  mixed := by kernel_rfl
  f15 := Yba.func13.trans (congrArg some (by kernel_rfl))
  t3 := Yba.underlying3
  a3 := Yba.isAgg3
  z3 := Yba.sizeOf3
  v3 := Yba.zeroValue3
  t4 := Yba.underlying4
  a4 := Yba.isAgg4
  z4 := Yba.sizeOf4
  v4 := Yba.zeroValue4
  t22 := Yba.underlying89
  a22 := Yba.isAgg89
  z22 := Yba.sizeOf89
  v22 := Yba.zeroValue89
  i3 := by kernel_rfl }
open Go.RowKit Go.Lib in
/-- slices.Clone at []int: "Clone returns a copy of the slice. The elements are copied using assignment, so this is a shallow clone. The result may have additional unused capacity. The result preserves the nilness of s.": OF A SLICE THAT IS NOT nil IT RETURNS A SLICE THAT IS NOT nil, OF THE SAME ELEMENTS, IN MEMORY OF THE CALL's OWN: in the how-to's words (6f): 'w'.ownsRow B e 1 v' n cells': v' begins at the head of a row among the blocks from B on (B: the heap's size at the call), not frozen, whose first cells are the elements · 'Below B w w'': below B all is as it was. The capacity is whatever the run-time gives. 'zs': what the cells behind the slice's address hold; 'zs.take n': its elements. (LAID: no walk: one application.) -/
theorem Yba.slices_Clone_int (b off n c : Nat) (zs : List Int) (w : World) (hz : n ≤ zs.length) (hbig : n * 8 ≤ 140737488355328) (hc : ∀ j, j < zs.length → w.cell? ⟨b, off + j, none⟩ = some (.int .i64 (zs.getD j 0))) :
    Calls Yba.prog 13 #[.slice (some ⟨b, off, none⟩) n c] w fun e w' => ∃ v', e = .returned v' ∧ w'.ownsRow w.heap.size 3 1 v' n ((zs.take n).map (Value.int .i64)) ∧ v' ≠ .slice none 0 0 ∧ Below w.heap.size w w' := Any.slices_Clone_int Yba.laysNm215 b off n c zs w hz hbig hc
open Go.RowKit Go.Lib in
/-- The same at nil: nil comes back; the world is as it was. (LAID: no walk: one application.) -/
theorem Yba.slices_Clone_int_nil (n c : Nat) (w : World) :
    Calls Yba.prog 13 #[.slice none n c] w fun e w' => e = .returned (.slice none 0 0) ∧ w' = w := Any.slices_Clone_int_nil Yba.laysNm215 n c w
open Go.RowKit Go.Lib in
/-- The same at a slice of length 0 that is not nil, WHATEVER ITS ADDRESS (no cell is asked for): a slice that is not nil and owns nothing comes back. (LAID: no walk: one application.) -/
theorem Yba.slices_Clone_int_zero (a : Addr) (c : Nat) (w : World) :
    Calls Yba.prog 13 #[.slice (some a) 0 c] w fun e w' => ∃ v', e = .returned v' ∧ w'.ownsRow w.heap.size 3 1 v' 0 [] ∧ v' ≠ .slice none 0 0 ∧ Below w.heap.size w w' := Any.slices_Clone_int_zero Yba.laysNm215 a c w
def Yba.laysNm220_ren : Go.Shelf.Ren := ⟨fun | 20 => 44 | n => n, fun | 22 => 89 | 3 => 3 | 4 => 4 | 0 => 0 | n => n, fun | n => n⟩
theorem Yba.laysNm220 : Go.Proofs.Lays2.n20 Yba.prog Yba.laysNm220_ren := {
  mixed := by kernel_rfl
  f20 := Yba.func44.trans (congrArg some (by kernel_rfl))
  t0 := Yba.underlying0
  a0 := Yba.isAgg0
  z0 := Yba.sizeOf0
  v0 := Yba.zeroValue0
  t3 := Yba.underlying3
  a3 := Yba.isAgg3
  z3 := Yba.sizeOf3
  v3 := Yba.zeroValue3
  t4 := Yba.underlying4
  a4 := Yba.isAgg4
  z4 := Yba.sizeOf4
  v4 := Yba.zeroValue4
  t22 := Yba.underlying89
  a22 := Yba.isAgg89
  z22 := Yba.sizeOf89
  v22 := Yba.zeroValue89
  i3 := by kernel_rfl }
open Go.RowKit Go.Lib Go.Sort in
/-- slices.Compact at []int, over an array: the library's two loops are walked. (LAID: no walk: one application.) -/
theorem Yba.slices_Compact_int_arr (blk off cap : Nat) (d : Array Int) (w : World) (hH : Holds encI w blk off d) (hsz : d.size ≤ 9223372036854775807) (hcap : d.size ≤ cap) :
    Calls Yba.prog 44 #[.slice (some ⟨blk, off, none⟩) d.size cap] w fun e w' => e = .returned (.slice (some ⟨blk, off, none⟩) (compactUpTo d d.size).length cap) ∧ ∃ q, w' = putRow encI (Sort.ahead w q) blk off (compactUpTo d d.size ++ List.replicate (d.size - (compactUpTo d d.size).length) 0).toArray := Any.slices_Compact_int_arr Yba.laysNm220 blk off cap d w hH hsz hcap
open Go.RowKit Go.Lib Go.Sort in
/-- slices.Compact at []int: "Compact replaces consecutive runs of equal elements with a single copy. This is like the uniq command found on Unix. Compact modifies the contents of the slice s and returns the modified slice, which may have a smaller length. Compact zeroes the elements between the new length and the original length. The result preserves the nilness of s.": IT RETURNS THE SLICE CUT TO 'Lib.compact zs'; ITS CELLS HOLD 'Lib.compact zs', THEN ZERO VALUES up to the old length; all else is as it was, but for the count of draws. IN THE WORDS OF slices.Sort's CONTRACT ('Holds', 'putRow'): so the everyday 'slices.Sort(xs); xs = slices.Compact(xs)' goes from the one contract to the other. It asks 'zs.length ≤ cap' (every slice's: the reslicing 's[:k]' looks at it). Length 0, nil: '.._empty'. (LAID: no walk: one application.) -/
theorem Yba.slices_Compact_int (blk off cap : Nat) (zs : List Int) (w : World) (hH : Holds (Value.int .i64) w blk off zs.toArray) (hsz : zs.length ≤ 9223372036854775807) (hcap : zs.length ≤ cap) :
    Calls Yba.prog 44 #[.slice (some ⟨blk, off, none⟩) zs.length cap] w fun e w' => e = .returned (.slice (some ⟨blk, off, none⟩) (Lib.compact zs).length cap) ∧ ∃ q, w' = putRow (Value.int .i64) (Sort.ahead w q) blk off (Lib.compact zs ++ List.replicate (zs.length - (Lib.compact zs).length) 0).toArray := Any.slices_Compact_int Yba.laysNm220 blk off cap zs w hH hsz hcap
open Go.RowKit Go.Lib Go.Sort in
/-- The same at a slice of length 0, a nil one too: it comes back as it is. (LAID: no walk: one application.) -/
theorem Yba.slices_Compact_int_empty (a : Option Addr) (cap : Nat) (w : World) :
    Calls Yba.prog 44 #[.slice a 0 cap] w fun e w' => e = .returned (.slice a 0 cap) ∧ w' = w := Any.slices_Compact_int_empty Yba.laysNm220 a cap w
open Go.RowKit Go.Sort in
/-- .. and plain. (LAID: no walk: one application.) -/
theorem Yba.slices_Sort_int_none (p : Option Addr) (cap : Nat) (w : World) :
    Calls Yba.prog 43 #[.slice p 0 cap] w fun e w' => e = .returned (.tuple #[]) ∧ w' = w := Any.slices_Sort_int_none Yba.lays189 p cap w

def Yba.laysSlE29_f17_ren : Go.Shelf.Ren := ⟨fun | 29 => 17 | n => n, fun | 22 => 99 | 23 => 92 | 3 => 3 | 0 => 0 | 4 => 4 | n => n, fun | n => n⟩
theorem Yba.laysSlE29_f17 : Go.Proofs.SlLaysE.n29 Yba.prog Yba.laysSlE29_f17_ren := {
  mixed := by kernel_rfl
  f29 := ⟨Yba.f17.name, by decide, Yba.func17.trans (congrArg some (by kernel_rfl))⟩
  t0 := Yba.underlying0
  a0 := Yba.isAgg0
  z0 := Yba.sizeOf0
  v0 := Yba.zeroValue0
  t3 := Yba.underlying3
  a3 := Yba.isAgg3
  z3 := Yba.sizeOf3
  v3 := Yba.zeroValue3
  t4 := Yba.underlying4
  a4 := Yba.isAgg4
  z4 := Yba.sizeOf4
  v4 := Yba.zeroValue4
  t22 := Yba.underlying99
  a22 := Yba.isAgg99
  z22 := Yba.sizeOf99
  v22 := Yba.zeroValue99
  a23 := Yba.isAgg92
  z23 := Yba.sizeOf92 }
open Go.Lib in
/-- slices.Index: "Index returns the index of the first occurrence of v in s, or -1 if not present.": IT RETURNS 'Lib.idxBy eq (the elements) v'; the world is as it was. 'zs': what the cells behind the slice's address hold (its spare capacity too, if you have it); 'zs.take n': its elements. (LAID AT THE INSTANCE 'slices.Index[[]uint32,uint32]': no walk: one application.) -/
theorem Yba.slices_Index {α : Type} [Inhabited α] (enc : α → Value) (eq : α → α → Bool) (heq : EqlAt Yba.prog 92 enc eq) (b off n c : Nat) (zs : List α) (x : α) (w : World) (hz : n ≤ zs.length) (hbig : n ≤ 9223372036854775807) (hc : ∀ j, j < zs.length → w.cell? ⟨b, off + j, none⟩ = some (enc zs[j]!)) :
    Calls Yba.prog 17 #[.slice (some ⟨b, off, none⟩) n c, enc x] w fun e w' => e = .returned (.int .i64 (Lib.idxBy eq (zs.take n) x)) ∧ w' = w := AnyE.slices_Index Yba.laysSlE29_f17 enc eq heq b off n c zs x w hz hbig hc
open Go.Lib in
/-- The same at a slice of length 0, a nil one too: no cell is known, none is asked for; nothing is asked of '=='. (LAID AT THE INSTANCE 'slices.Index[[]uint32,uint32]': no walk: one application.) -/
theorem Yba.slices_Index_empty {α : Type} [Inhabited α] (a : Option Addr) (c : Nat) (xv : Value) (w : World) :
    Calls Yba.prog 17 #[.slice a 0 c, xv] w fun e w' => e = .returned (.int .i64 (-1)) ∧ w' = w := AnyE.slices_Index_empty Yba.laysSlE29_f17 a c xv w
end Go.Proofs
