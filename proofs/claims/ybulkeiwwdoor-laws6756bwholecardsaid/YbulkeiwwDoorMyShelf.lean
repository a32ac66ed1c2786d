/-
  DERIVED: THE SHELF's CONTRACTS AT THIS DUMP, IN PLAIN WORDS (tools/lay-plain.mjs out of 'YbadShelf.lean', which tools/lay-shelf.mjs wrote): THE SAME DECLARATIONS UNDER THE SAME NAMES: 'import', 'namespace', 'open', 'def', 'theorem' AND NOTHING ELSE: no command of the shelf's: FOR A HAND-IN. Each laying: the table of numbers ('.._ren') and one theorem, a field a fact of the dump's own or the kernel's comparison; each contract: ONE APPLICATION.
-/
import Derived.Shelf.Strings.Builder1
import Derived.Shelf.Strings.Builder2
import Derived.Shelf.Strings.OnBuilder
import Derived.Shelf.Small.Bits
import Derived.Shelf.Small.Wraps
import Derived.Shelf.Strings.BuilderF
import Derived.Shelf.Strings.BuilderK
import Derived.Shelf.Strconv.Itoa0
import Derived.Ground.MnProg
import Derived.Shelf.Bin.LEAppendUint64
import Derived.Shelf.Bin.LEAppendUint64Arg
import Derived.Shelf.Sort.Plain
import Derived.Shelf.Slices.Turned
import Derived.Shelf.Slices.Equal
import Derived.Ground.Names2Prog
import Derived.Shelf.Slices.Clone
import Derived.Shelf.Slices.SearchI
import Derived.Shelf.Slices.In.SortNone
import Derived.Shelf.Slices.Empties2
import Derived.Ground.SlgnProg
import Derived.Shelf.SlicesE.Equal
import Derived.Shelf.SlicesE.Clone
import Derived.Ground.SlsfProg
import Derived.Shelf.SlSortCmp.Insertion
import Derived.Shelf.SlSortCmp.SiftDown1
import Derived.Shelf.SlSortCmp.HeapSort1
import Derived.Shelf.SlSortCmp.Insertion1
import Derived.Shelf.SlSortCmp.Median1
import Derived.Shelf.SlSortCmp.Pivot1
import Derived.Shelf.SlSortCmp.ReverseRange1
import Derived.Shelf.SlSortCmp.PartialInsertion1
import Derived.Shelf.SlSortCmp.PartitionEqual1
import Derived.Shelf.SlSortCmp.Partition1
import Derived.Shelf.SlSortCmp.Pdq1
import Derived.Shelf.SlSortCmp.Whole1
import Derived.Test.YbulkeiwwDoorProg
namespace Go.Proofs
open Go.Shelf
def Ybad.lays169_ren : Go.Shelf.Ren := ⟨fun | 169 => 29 | n => n, fun | 70 => 106 | 9 => 9 | 0 => 0 | 72 => 108 | 37 => 32 | 127 => 120 | 3 => 3 | 5 => 5 | n => n, fun | n => n⟩
theorem Ybad.lays169 : Go.Proofs.Lays.n169 Ybad.prog Ybad.lays169_ren := {
  mixed := by kernel_rfl
  f169 := Ybad.func29.trans (congrArg some (by kernel_rfl))
  t0 := Ybad.underlying0
  a0 := Ybad.isAgg0
  z0 := Ybad.sizeOf0
  v0 := Ybad.zeroValue0
  t3 := Ybad.underlying3
  a3 := Ybad.isAgg3
  z3 := Ybad.sizeOf3
  v3 := Ybad.zeroValue3
  t9 := Ybad.underlying9
  a9 := Ybad.isAgg9
  z9 := Ybad.sizeOf9
  v9 := Ybad.zeroValue9
  t37 := Ybad.underlying32
  a37 := Ybad.isAgg32
  z37 := Ybad.sizeOf32
  v37 := Ybad.zeroValue32
  t70 := Ybad.underlying106
  a70 := Ybad.isAgg106
  z70 := Ybad.sizeOf106
  v70 := Ybad.zeroValue106
  t72 := Ybad.underlying108
  a72 := Ybad.isAgg108
  z72 := Ybad.sizeOf108
  v72 := Ybad.zeroValue108
  t127 := Ybad.underlying120
  a127 := Ybad.isAgg120
  z127 := Ybad.sizeOf120
  v127 := Ybad.zeroValue120 }
theorem Ybad.Builder_Extra_169 : Builder.Extra Ybad.prog Ybad.lays169_ren := {
  sizeBuilder := by kernel_rfl
  liesBuilder := by kernel_rfl
  t5 := Ybad.underlying5
  a5 := Ybad.isAgg5
  z5 := Ybad.sizeOf5
  v5 := Ybad.zeroValue5
  infoByte := by kernel_rfl
  cellsByte := by kernel_rfl
  sizeByte := by kernel_rfl
  neB5 := by decide }
open Go.RowKit in
/-- (*strings.Builder).String: the bytes that the builder holds. -/
theorem Ybad.Builder_String (B b : Nat) (l : List UInt8) (w : World) (h : Lib.IsBuilder 108 5 B b (Lib.byteCells l) w) (h0 : l ≠ []) :
    Calls Ybad.prog 29 #[.pointer (some ⟨b, 0, none⟩)] w fun e w' => e = .returned (.string ⟨l.toArray⟩) ∧ Below B w w' := Any.Builder_String Ybad.lays169 Ybad.Builder_Extra_169 B b l w h h0
open Go.RowKit in
/-- (*strings.Builder).String: the bytes that the builder holds. -/
theorem Ybad.Builder_String_empty (B b : Nat) (w : World) (h : Lib.IsBuilder 108 5 B b [] w) (hBw : B ≤ w.heap.size) :
    Calls Ybad.prog 29 #[.pointer (some ⟨b, 0, none⟩)] w fun e w' => e = .returned (.string ⟨#[]⟩) ∧ Below B w w' := Any.Builder_String_empty Ybad.lays169 Ybad.Builder_Extra_169 B b w h hBw
open Go.RowKit in
/-- (*strings.Builder).String: "String returns the accumulated string.": WHATEVER THE BUILDER HOLDS. (LAID: no walk: one application.) -/
theorem Ybad.Builder_String_any (B b : Nat) (l : List UInt8) (w : World) (h : Lib.IsBuilder 108 5 B b (Lib.byteCells l) w) (hBw : B ≤ w.heap.size) :
    Calls Ybad.prog 29 #[.pointer (some ⟨b, 0, none⟩)] w fun e w' => e = .returned (.string ⟨l.toArray⟩) ∧ Below B w w' := Any.Builder_String_any Ybad.lays169 Ybad.Builder_Extra_169 B b l w h hBw
def Ybad.lays241_ren : Go.Shelf.Ren := ⟨fun | 241 => 39 | 277 => 58 | n => n, fun | 70 => 106 | 3 => 3 | 0 => 0 | 72 => 108 | 37 => 32 | 5 => 5 | n => n, fun | n => n⟩
theorem Ybad.lays241 : Go.Proofs.Lays.n241 Ybad.prog Ybad.lays241_ren := {
  mixed := by kernel_rfl
  f241 := Ybad.func39.trans (congrArg some (by kernel_rfl))
  f277 := Ybad.func58.trans (congrArg some (by kernel_rfl))
  t0 := Ybad.underlying0
  a0 := Ybad.isAgg0
  z0 := Ybad.sizeOf0
  v0 := Ybad.zeroValue0
  t3 := Ybad.underlying3
  a3 := Ybad.isAgg3
  z3 := Ybad.sizeOf3
  v3 := Ybad.zeroValue3
  t37 := Ybad.underlying32
  a37 := Ybad.isAgg32
  z37 := Ybad.sizeOf32
  v37 := Ybad.zeroValue32
  t70 := Ybad.underlying106
  a70 := Ybad.isAgg106
  z70 := Ybad.sizeOf106
  v70 := Ybad.zeroValue106
  t72 := Ybad.underlying108
  a72 := Ybad.isAgg108
  z72 := Ybad.sizeOf108
  v72 := Ybad.zeroValue108 }
theorem Ybad.Builder_Extra_241 : Builder.Extra Ybad.prog Ybad.lays241_ren := {
  sizeBuilder := by kernel_rfl
  liesBuilder := by kernel_rfl
  t5 := Ybad.underlying5
  a5 := Ybad.isAgg5
  z5 := Ybad.sizeOf5
  v5 := Ybad.zeroValue5
  infoByte := by kernel_rfl
  cellsByte := by kernel_rfl
  sizeByte := by kernel_rfl
  neB5 := by decide }
open Go.RowKit in
/-- (*strings.Builder).grow (no doc but "grow copies the buffer to a new, larger buffer so that there are at least n bytes of capacity beyond len(b.buf)."): AT A BUILDER WITHOUT A BUFFER: a new row of whatever bytes for its buffer, none of them its own yet. Three draws. (LAID: no walk: one application.) -/
theorem Ybad.Builder_grow_fresh (B b n : Nat) (w : World) (hB : B ≤ b) (hbk : w.heap[b]? = some (.cells #[.pointer (some ⟨b, 0, none⟩), .slice none 0 0] 108 (0, 0))) (hBw : B ≤ w.heap.size) (hn : n ≤ 281474976710656) :
    Calls Ybad.prog 39 #[.pointer (some ⟨b, 0, none⟩), .int .i64 n] w fun e w' => e = .returned (.tuple #[]) ∧ (Lib.BuilderAt 108 5 B b (.pointer (some ⟨b, 0, none⟩)) [] w' ∧ Below B w w') := Any.Builder_grow_fresh Ybad.lays241 Ybad.Builder_Extra_241 B b n w hB hbk hBw hn
def Ybad.lays165_ren : Go.Shelf.Ren := ⟨fun | 165 => 27 | 240 => 38 | 241 => 39 | 276 => 57 | 277 => 58 | n => n, fun | 70 => 106 | 3 => 3 | 0 => 0 | 4 => 4 | 9 => 9 | 20 => 20 | 72 => 108 | 37 => 32 | 164 => 140 | 5 => 5 | n => n, fun | n => n⟩
theorem Ybad.lays165 : Go.Proofs.Lays.n165 Ybad.prog Ybad.lays165_ren := {
  mixed := by kernel_rfl
  f165 := Ybad.func27.trans (congrArg some (by kernel_rfl))
  f240 := Ybad.func38.trans (congrArg some (by kernel_rfl))
  f241 := Ybad.func39.trans (congrArg some (by kernel_rfl))
  f276 := Ybad.func57.trans (congrArg some (by kernel_rfl))
  f277 := Ybad.func58.trans (congrArg some (by kernel_rfl))
  t0 := Ybad.underlying0
  a0 := Ybad.isAgg0
  z0 := Ybad.sizeOf0
  v0 := Ybad.zeroValue0
  t3 := Ybad.underlying3
  a3 := Ybad.isAgg3
  z3 := Ybad.sizeOf3
  v3 := Ybad.zeroValue3
  t4 := Ybad.underlying4
  a4 := Ybad.isAgg4
  z4 := Ybad.sizeOf4
  v4 := Ybad.zeroValue4
  t9 := Ybad.underlying9
  a9 := Ybad.isAgg9
  z9 := Ybad.sizeOf9
  v9 := Ybad.zeroValue9
  t20 := Ybad.underlying20
  a20 := Ybad.isAgg20
  z20 := Ybad.sizeOf20
  v20 := Ybad.zeroValue20
  t37 := Ybad.underlying32
  a37 := Ybad.isAgg32
  z37 := Ybad.sizeOf32
  v37 := Ybad.zeroValue32
  t70 := Ybad.underlying106
  a70 := Ybad.isAgg106
  z70 := Ybad.sizeOf106
  v70 := Ybad.zeroValue106
  t72 := Ybad.underlying108
  a72 := Ybad.isAgg108
  z72 := Ybad.sizeOf108
  v72 := Ybad.zeroValue108
  t164 := Ybad.underlying140
  a164 := Ybad.isAgg140
  z164 := Ybad.sizeOf140
  v164 := Ybad.zeroValue140 }
theorem Ybad.Builder_Extra_165 : Builder.Extra Ybad.prog Ybad.lays165_ren := {
  sizeBuilder := by kernel_rfl
  liesBuilder := by kernel_rfl
  t5 := Ybad.underlying5
  a5 := Ybad.isAgg5
  z5 := Ybad.sizeOf5
  v5 := Ybad.zeroValue5
  infoByte := by kernel_rfl
  cellsByte := by kernel_rfl
  sizeByte := by kernel_rfl
  neB5 := by decide }
open Go.RowKit in
/-- (*strings.Builder).Grow AT A BUILDER THAT HAS NOT BEEN WRITTEN ('var b strings.Builder; b.Grow(n)'): "Grow grows b's capacity, if necessary, to guarantee space for another n bytes.": it holds no byte behind it as before it. (LAID: no walk: one application.) -/
theorem Ybad.Builder_Grow_fresh (B b n : Nat) (w : World) (hB : B ≤ b) (hbk : w.heap[b]? = some (.cells #[.pointer none, .slice none 0 0] 108 (0, 0))) (hBw : B ≤ w.heap.size) (hn : n ≤ 281474976710656) :
    Calls Ybad.prog 27 #[.pointer (some ⟨b, 0, none⟩), .int .i64 n] w fun e w' => e = .returned (.tuple #[]) ∧ (Lib.BuilderAt 108 5 B b (.pointer (some ⟨b, 0, none⟩)) [] w' ∧ Below B w w') := Any.Builder_Grow_fresh Ybad.lays165 Ybad.Builder_Extra_165 B b n w hB hbk hBw hn
def Ybad.lays156_ren : Go.Shelf.Ren := ⟨fun | 156 => 18 | 165 => 27 | 166 => 28 | 169 => 29 | 240 => 38 | 241 => 39 | 276 => 57 | 277 => 58 | n => n, fun | 31 => 22 | 9 => 9 | 3 => 3 | 4 => 4 | 0 => 0 | 20 => 20 | 72 => 108 | 76 => 111 | 70 => 106 | 37 => 32 | 75 => 110 | 127 => 120 | 164 => 140 | 5 => 5 | 80 => 113 | n => n, fun | n => n⟩
theorem Ybad.lays156 : Go.Proofs.Lays.n156 Ybad.prog Ybad.lays156_ren := {
  mixed := by kernel_rfl
  f156 := Ybad.func18.trans (congrArg some (by kernel_rfl))
  f165 := Ybad.func27.trans (congrArg some (by kernel_rfl))
  f166 := Ybad.func28.trans (congrArg some (by kernel_rfl))
  f169 := Ybad.func29.trans (congrArg some (by kernel_rfl))
  f240 := Ybad.func38.trans (congrArg some (by kernel_rfl))
  f241 := Ybad.func39.trans (congrArg some (by kernel_rfl))
  f276 := Ybad.func57.trans (congrArg some (by kernel_rfl))
  f277 := Ybad.func58.trans (congrArg some (by kernel_rfl))
  t0 := Ybad.underlying0
  a0 := Ybad.isAgg0
  z0 := Ybad.sizeOf0
  v0 := Ybad.zeroValue0
  t3 := Ybad.underlying3
  a3 := Ybad.isAgg3
  z3 := Ybad.sizeOf3
  v3 := Ybad.zeroValue3
  t4 := Ybad.underlying4
  a4 := Ybad.isAgg4
  z4 := Ybad.sizeOf4
  v4 := Ybad.zeroValue4
  t9 := Ybad.underlying9
  a9 := Ybad.isAgg9
  z9 := Ybad.sizeOf9
  v9 := Ybad.zeroValue9
  t20 := Ybad.underlying20
  a20 := Ybad.isAgg20
  z20 := Ybad.sizeOf20
  v20 := Ybad.zeroValue20
  t31 := Ybad.underlying22
  a31 := Ybad.isAgg22
  z31 := Ybad.sizeOf22
  v31 := Ybad.zeroValue22
  t37 := Ybad.underlying32
  a37 := Ybad.isAgg32
  z37 := Ybad.sizeOf32
  v37 := Ybad.zeroValue32
  t70 := Ybad.underlying106
  a70 := Ybad.isAgg106
  z70 := Ybad.sizeOf106
  v70 := Ybad.zeroValue106
  t72 := Ybad.underlying108
  a72 := Ybad.isAgg108
  z72 := Ybad.sizeOf108
  v72 := Ybad.zeroValue108
  t75 := Ybad.underlying110
  a75 := Ybad.isAgg110
  z75 := Ybad.sizeOf110
  v75 := Ybad.zeroValue110
  t76 := Ybad.underlying111
  a76 := Ybad.isAgg111
  z76 := Ybad.sizeOf111
  v76 := Ybad.zeroValue111
  t127 := Ybad.underlying120
  a127 := Ybad.isAgg120
  z127 := Ybad.sizeOf120
  v127 := Ybad.zeroValue120
  t164 := Ybad.underlying140
  a164 := Ybad.isAgg140
  z164 := Ybad.sizeOf140
  v164 := Ybad.zeroValue140 }
theorem Ybad.Builder_Extra_156 : Builder.Extra Ybad.prog Ybad.lays156_ren := {
  sizeBuilder := by kernel_rfl
  liesBuilder := by kernel_rfl
  t5 := Ybad.underlying5
  a5 := Ybad.isAgg5
  z5 := Ybad.sizeOf5
  v5 := Ybad.zeroValue5
  infoByte := by kernel_rfl
  cellsByte := by kernel_rfl
  sizeByte := by kernel_rfl
  neB5 := by decide }
open Go.RowKit in
/-- No element: the empty string; the world is as it was. (Whatever the slice's address and capacity: a nil slice too.) (LAID: no walk: one application.) -/
theorem Ybad.strings_Join_none (a : Option Addr) (c : Nat) (sep : ByteArray) (w : World) :
    Calls Ybad.prog 18 #[.slice a 0 c, .string sep] w fun e w' => e = .returned (.string ⟨#[]⟩) ∧ w' = w := Any.strings_Join_none Ybad.lays156 Ybad.Builder_Extra_156 a c sep w
open Go.RowKit in
/-- strings.Join: "Join concatenates the elements of its first argument to create a single string. The separator string sep is placed between elements in the resulting string.": HOWEVER MANY ELEMENTS. Below the heap's end the world is as it was. (LAID: no walk: one application.) -/
theorem Ybad.strings_Join (bk o c : Nat) (xs : List ByteArray) (sep : ByteArray) (w : World) (hcells : ∀ (j : Nat) x, xs[j]? = some x → w.cell? ⟨bk, o + j, none⟩ = some (.string x)) (hbk : bk < w.heap.size) (hN : xs.length ≤ 140737488355328) (hcap : xs.length ≤ c) (hlen : (Lib.join (xs.map (·.data.toList)) sep.data.toList).length ≤ 140737488355328) :
    Calls Ybad.prog 18 #[.slice (some ⟨bk, o, none⟩) xs.length c, .string sep] w fun e w' => e = .returned (.string ⟨(Lib.join (xs.map (·.data.toList)) sep.data.toList).toArray⟩) ∧ Below w.heap.size w w' := Any.strings_Join Ybad.lays156 Ybad.Builder_Extra_156 bk o c xs sep w hcells hbk hN hcap hlen
def Ybad.lays128_ren : Go.Shelf.Ren := ⟨fun | 128 => 51 | n => n, fun | 51 => 133 | 3 => 3 | 4 => 4 | 46 => 39 | 5 => 5 | 9 => 9 | n => n, fun | n => n⟩
theorem Ybad.lays128 : Go.Proofs.Lays.n128 Ybad.prog Ybad.lays128_ren := {
  mixed := by kernel_rfl
  f128 := Ybad.func51.trans (congrArg some (by kernel_rfl))
  t3 := Ybad.underlying3
  a3 := Ybad.isAgg3
  z3 := Ybad.sizeOf3
  v3 := Ybad.zeroValue3
  t4 := Ybad.underlying4
  a4 := Ybad.isAgg4
  z4 := Ybad.sizeOf4
  v4 := Ybad.zeroValue4
  t5 := Ybad.underlying5
  a5 := Ybad.isAgg5
  z5 := Ybad.sizeOf5
  v5 := Ybad.zeroValue5
  t9 := Ybad.underlying9
  a9 := Ybad.isAgg9
  z9 := Ybad.sizeOf9
  v9 := Ybad.zeroValue9
  t46 := Ybad.underlying39
  a46 := Ybad.isAgg39
  z46 := Ybad.sizeOf39
  v46 := Ybad.zeroValue39
  t51 := Ybad.underlying133
  a51 := Ybad.isAgg133
  z51 := Ybad.sizeOf133
  v51 := Ybad.zeroValue133 }
/-- bits.Len32: "Len32 returns the minimum number of bits required to represent x; the result is 0 for x == 0.": IT RETURNS 'Lib.bitLen x'; the world is as it was. ('h0', 'h1': x is a uint32.) (LAID: no walk: one application.) -/
theorem Ybad.bits_Len32 (x : Int) (w : World) (h0 : 0 ≤ x) (h1 : x ≤ 4294967295) :
    Calls Ybad.prog 51 #[.int .u32 x] w fun e w' => e = .returned (.int .i64 (Lib.bitLen x.toNat)) ∧ w' = w := Any.bits_Len32 Ybad.lays128 x w h0 h1
def Ybad.lays125_ren : Go.Shelf.Ren := ⟨fun | 125 => 36 | 128 => 51 | 129 => 52 | n => n, fun | 46 => 39 | 3 => 3 | 51 => 133 | 53 => 40 | 4 => 4 | 5 => 5 | 9 => 9 | n => n, fun | n => n⟩
theorem Ybad.lays125 : Go.Proofs.Lays.n125 Ybad.prog Ybad.lays125_ren := {
  mixed := by kernel_rfl
  f125 := Ybad.func36.trans (congrArg some (by kernel_rfl))
  f128 := Ybad.func51.trans (congrArg some (by kernel_rfl))
  f129 := Ybad.func52.trans (congrArg some (by kernel_rfl))
  t3 := Ybad.underlying3
  a3 := Ybad.isAgg3
  z3 := Ybad.sizeOf3
  v3 := Ybad.zeroValue3
  t4 := Ybad.underlying4
  a4 := Ybad.isAgg4
  z4 := Ybad.sizeOf4
  v4 := Ybad.zeroValue4
  t5 := Ybad.underlying5
  a5 := Ybad.isAgg5
  z5 := Ybad.sizeOf5
  v5 := Ybad.zeroValue5
  t9 := Ybad.underlying9
  a9 := Ybad.isAgg9
  z9 := Ybad.sizeOf9
  v9 := Ybad.zeroValue9
  t46 := Ybad.underlying39
  a46 := Ybad.isAgg39
  z46 := Ybad.sizeOf39
  v46 := Ybad.zeroValue39
  t51 := Ybad.underlying133
  a51 := Ybad.isAgg133
  z51 := Ybad.sizeOf133
  v51 := Ybad.zeroValue133
  t53 := Ybad.underlying40
  a53 := Ybad.isAgg40
  z53 := Ybad.sizeOf40
  v53 := Ybad.zeroValue40 }
/-- bits.Len: "Len returns the minimum number of bits required to represent x; the result is 0 for x == 0.": IT RETURNS 'Lib.bitLen x'; the world is as it was. (A uint has 64 bits in the model.) ITS CALLEE bits.Len64 IS MET BY ITS OWN CONTRACT OFF THE SHELF (lay that first). (LAID: no walk: one application.) -/
theorem Ybad.bits_Len (x : Int) (w : World) (h0 : 0 ≤ x) (h1 : x ≤ 18446744073709551615) :
    Calls Ybad.prog 36 #[.int .u64 x] w fun e w' => e = .returned (.int .i64 (Lib.bitLen x.toNat)) ∧ w' = w := Any.bits_Len Ybad.lays125 x w h0 h1
def Ybad.lays215_ren : Go.Shelf.Ren := ⟨fun | 215 => 78 | n => n, fun | 3 => 3 | 4 => 4 | n => n, fun | n => n⟩
theorem Ybad.lays215 : Go.Proofs.Lays.n215 Ybad.prog Ybad.lays215_ren := {
  mixed := by kernel_rfl
  f215 := Ybad.func78.trans (congrArg some (by kernel_rfl))
  t3 := Ybad.underlying3
  a3 := Ybad.isAgg3
  z3 := Ybad.sizeOf3
  v3 := Ybad.zeroValue3
  t4 := Ybad.underlying4
  a4 := Ybad.isAgg4
  z4 := Ybad.sizeOf4
  v4 := Ybad.zeroValue4 }
open Go.RowKit in
/-- cmp.isNaN at int: 'x != x': false. (LAID: no walk: one application.) -/
theorem Ybad.cmp_isNaN_int (x : Int) (w : World) :
    Calls Ybad.prog 78 #[.int .i64 x] w fun e w' => e = .returned (.bool false) ∧ w' = w := Any.cmp_isNaN_int Ybad.lays215 x w
open Go.RowKit in
/-- (*strings.Builder).String: the bytes that the builder holds. -/
theorem Ybad.Builder_String_f (B b : Nat) (l : List UInt8) (w : World) (h : Lib.IsBuilderF 108 5 B b (Lib.byteCells l) w) (h0 : l ≠ []) :
    Calls Ybad.prog 29 #[.pointer (some ⟨b, 0, none⟩)] w fun e w' => e = .returned (.string ⟨l.toArray⟩) ∧ (Lib.IsBuilderF 108 5 B b (Lib.byteCells l) w' ∧ Below B w w') := Any.Builder_String_f Ybad.lays169 Ybad.Builder_Extra_169 B b l w h h0
open Go.RowKit in
/-- (*strings.Builder).String OF A BUILDER THAT HOLDS NO BYTE: the empty string; THE FORM '_f': a builder still. (LAID: no walk: one application.) -/
theorem Ybad.Builder_String_empty_f (B b : Nat) (w : World) (h : Lib.IsBuilderF 108 5 B b [] w) (hBw : B ≤ w.heap.size) :
    Calls Ybad.prog 29 #[.pointer (some ⟨b, 0, none⟩)] w fun e w' => e = .returned (.string ⟨#[]⟩) ∧ (Lib.IsBuilderF 108 5 B b [] w' ∧ Below B w w') := Any.Builder_String_empty_f Ybad.lays169 Ybad.Builder_Extra_169 B b w h hBw
open Go.RowKit in
/-- (*strings.Builder).String: "String returns the accumulated string.": WHATEVER THE BUILDER HOLDS; THE FORM '_f': OF A BUILDER THAT MAY HAVE BEEN READ BEFORE; AND IT IS A BUILDER STILL, holding the same bytes: it can be written on. (LAID: no walk: one application.) -/
theorem Ybad.Builder_String_any_f (B b : Nat) (l : List UInt8) (w : World) (h : Lib.IsBuilderF 108 5 B b (Lib.byteCells l) w) (hBw : B ≤ w.heap.size) :
    Calls Ybad.prog 29 #[.pointer (some ⟨b, 0, none⟩)] w fun e w' => e = .returned (.string ⟨l.toArray⟩) ∧ (Lib.IsBuilderF 108 5 B b (Lib.byteCells l) w' ∧ Below B w w') := Any.Builder_String_any_f Ybad.lays169 Ybad.Builder_Extra_169 B b l w h hBw
open Go.RowKit in
/-- (*strings.Builder).String: the bytes that the builder holds. -/
theorem Ybad.Builder_String_k (B b : Nat) (l : List UInt8) (w : World) (h : Lib.IsBuilderF 108 5 B b (Lib.byteCells l) w) (h0 : l ≠ []) :
    Calls Ybad.prog 29 #[.pointer (some ⟨b, 0, none⟩)] w fun e w' => e = .returned (.string ⟨l.toArray⟩) ∧ (Lib.IsBuilderF 108 5 B b (Lib.byteCells l) w' ∧ Below B w w' ∧ Lib.OthersKept 5 (some b) w w') := Any.Builder_String_k Ybad.lays169 Ybad.Builder_Extra_169 B b l w h h0
open Go.RowKit in
/-- (*strings.Builder).String OF A BUILDER THAT HOLDS NO BYTE: the empty string; THE FORM '_k': OVER 'Lib.IsBuilderF' (a builder that 'String()' may have read), AND WITH THE FRAME THAT REACHES ABOVE THE BUILDER: 'Lib.OthersKept': every block that is not b and is no row of uint8's stands as it stood: the iterator of a range among them. (LAID: no walk: one application.) -/
theorem Ybad.Builder_String_empty_k (B b : Nat) (w : World) (h : Lib.IsBuilderF 108 5 B b [] w) (hBw : B ≤ w.heap.size) :
    Calls Ybad.prog 29 #[.pointer (some ⟨b, 0, none⟩)] w fun e w' => e = .returned (.string ⟨#[]⟩) ∧ (Lib.IsBuilderF 108 5 B b [] w' ∧ Below B w w' ∧ Lib.OthersKept 5 (some b) w w') := Any.Builder_String_empty_k Ybad.lays169 Ybad.Builder_Extra_169 B b w h hBw
open Go.RowKit in
/-- (*strings.Builder).String: "String returns the accumulated string.": WHATEVER THE BUILDER HOLDS; THE FORM '_k': OVER 'Lib.IsBuilderF' (a builder that 'String()' may have read), AND WITH THE FRAME THAT REACHES ABOVE THE BUILDER: 'Lib.OthersKept': every block that is not b and is no row of uint8's stands as it stood: the iterator of a range among them. (LAID: no walk: one application.) -/
theorem Ybad.Builder_String_any_k (B b : Nat) (l : List UInt8) (w : World) (h : Lib.IsBuilderF 108 5 B b (Lib.byteCells l) w) (hBw : B ≤ w.heap.size) :
    Calls Ybad.prog 29 #[.pointer (some ⟨b, 0, none⟩)] w fun e w' => e = .returned (.string ⟨l.toArray⟩) ∧ (Lib.IsBuilderF 108 5 B b (Lib.byteCells l) w' ∧ Below B w w' ∧ Lib.OthersKept 5 (some b) w w') := Any.Builder_String_any_k Ybad.lays169 Ybad.Builder_Extra_169 B b l w h hBw
def Ybad.lays129_ren : Go.Shelf.Ren := ⟨fun | 129 => 52 | n => n, fun | 53 => 40 | 3 => 3 | 4 => 4 | 46 => 39 | 5 => 5 | 9 => 9 | n => n, fun | n => n⟩
theorem Ybad.lays129 : Go.Proofs.Lays.n129 Ybad.prog Ybad.lays129_ren := {
  mixed := by kernel_rfl
  f129 := Ybad.func52.trans (congrArg some (by kernel_rfl))
  t3 := Ybad.underlying3
  a3 := Ybad.isAgg3
  z3 := Ybad.sizeOf3
  v3 := Ybad.zeroValue3
  t4 := Ybad.underlying4
  a4 := Ybad.isAgg4
  z4 := Ybad.sizeOf4
  v4 := Ybad.zeroValue4
  t5 := Ybad.underlying5
  a5 := Ybad.isAgg5
  z5 := Ybad.sizeOf5
  v5 := Ybad.zeroValue5
  t9 := Ybad.underlying9
  a9 := Ybad.isAgg9
  z9 := Ybad.sizeOf9
  v9 := Ybad.zeroValue9
  t46 := Ybad.underlying39
  a46 := Ybad.isAgg39
  z46 := Ybad.sizeOf39
  v46 := Ybad.zeroValue39
  t53 := Ybad.underlying40
  a53 := Ybad.isAgg40
  z53 := Ybad.sizeOf40
  v53 := Ybad.zeroValue40 }
/-- bits.Len64: "Len64 returns the minimum number of bits required to represent x; the result is 0 for x == 0.": IT RETURNS 'Lib.bitLen x'; the world is as it was. ('h0', 'h1': x is a uint64.) (LAID: no walk: one application.) -/
theorem Ybad.bits_Len64 (x : Int) (w : World) (h0 : 0 ≤ x) (h1 : x ≤ 18446744073709551615) :
    Calls Ybad.prog 52 #[.int .u64 x] w fun e w' => e = .returned (.int .i64 (Lib.bitLen x.toNat)) ∧ w' = w := Any.bits_Len64 Ybad.lays129 x w h0 h1
def Ybad.laysBin35_ren : Go.Shelf.Ren := ⟨fun | 35 => 55 | n => n, fun | 25 => 137 | 22 => 32 | 33 => 40 | 0 => 0 | 5 => 5 | 45 => 39 | n => n, fun | n => n⟩
theorem Ybad.laysBin35 : Go.Proofs.LaysBin.n35 Ybad.prog Ybad.laysBin35_ren := {
  mixed := by kernel_rfl
  f35 := Ybad.func55.trans (congrArg some (by kernel_rfl))
  t0 := Ybad.underlying0
  a0 := Ybad.isAgg0
  z0 := Ybad.sizeOf0
  v0 := Ybad.zeroValue0
  i0 := by kernel_rfl
  t5 := Ybad.underlying5
  a5 := Ybad.isAgg5
  z5 := Ybad.sizeOf5
  v5 := Ybad.zeroValue5
  i5 := by kernel_rfl
  t22 := Ybad.underlying32
  a22 := Ybad.isAgg32
  z22 := Ybad.sizeOf32
  v22 := Ybad.zeroValue32
  i22 := by kernel_rfl
  t25 := Ybad.underlying137
  a25 := Ybad.isAgg137
  z25 := Ybad.sizeOf137
  v25 := Ybad.zeroValue137
  i25 := by kernel_rfl
  t33 := Ybad.underlying40
  a33 := Ybad.isAgg40
  z33 := Ybad.sizeOf40
  v33 := Ybad.zeroValue40
  i33 := by kernel_rfl
  t45 := Ybad.underlying39
  a45 := Ybad.isAgg39
  z45 := Ybad.sizeOf39
  v45 := Ybad.zeroValue39
  i45 := by kernel_rfl }
open Go.RowKit in
/-- binary.LittleEndian.AppendUint64: "AppendUint64 appends the bytes of v to b and returns the appended slice.": WHAT COMES BACK OWNS b's CELLS AND, BEHIND THEM, v's 8 BYTES, the least first ('Lib.leBytes 8 v'). Below the call's own blocks nothing has turned. (LAID: no walk: one application.) -/
theorem Ybad.binary_LE_AppendUint64 (B n v : Nat) (hv : v < 18446744073709551616) (sv : Value) (xs : List Value) (w : World) (hown : w.ownsRow B 5 1 sv n xs) (hBw : B ≤ w.heap.size) (hlim : n + 8 ≤ 140737488355328) :
    Calls Ybad.prog 55 #[.agg #[], sv, .int .u64 v] w fun e w' => ∃ v', e = .returned v' ∧ w'.ownsRow B 5 1 v' (n + 8) (xs ++ Lib.byteCells (Lib.leBytes 8 v)) ∧ Below B w w' := Any.binary_LE_AppendUint64 Ybad.laysBin35 B n v hv sv xs w hown hBw hlim
open Go.RowKit in
/-- binary.LittleEndian.AppendUint64, b A SLICE THAT CAME IN, holding 'olds': WHERE n + 8 ≤ cap: THE SAME BASE, 8 LONGER; v's bytes are laid in b's spare capacity ('World.setCells'): WHOEVER SHARES THAT MEMORY SEES THEM. WHERE NOT: a slice that owns 'olds' and v's bytes in a new row; of what was there nothing has turned. (LAID: no walk: one application.) -/
theorem Ybad.binary_LE_AppendUint64_arg (g o n cap v : Nat) (hv : v < 18446744073709551616) (olds : List Value) (w : World) (hlo : olds.length = n) (holds : ∀ j u, olds[j]? = some u → w.cell? ⟨g, o + j, none⟩ = some u) (hspare : n + 8 ≤ cap → ∀ j, j < 8 → (w.cell? ⟨g, o + n + j, none⟩).isSome = true ∧ w.frozen? ⟨g, o + n + j, none⟩ = false) (hlim : n + 8 ≤ 140737488355328) :
    Calls Ybad.prog 55 #[.agg #[], .slice (some ⟨g, o, none⟩) n cap, .int .u64 v] w fun e w' =>
      (n + 8 ≤ cap ∧ e = .returned (.slice (some ⟨g, o, none⟩) (n + 8) cap) ∧ w' = ((w.alloc (.cells #[] 137)).alloc (.cells (Lib.byteCells (Lib.leBytes 8 v)).toArray 5)).setCells g (o + n) (Lib.byteCells (Lib.leBytes 8 v))) ∨
      (cap < n + 8 ∧ ∃ v', e = .returned v' ∧ w'.ownsRow (w.heap.size + 2) 5 1 v' (n + 8) (olds ++ Lib.byteCells (Lib.leBytes 8 v)) ∧ Below w.heap.size w w') := Any.binary_LE_AppendUint64_arg Ybad.laysBin35 g o n cap v hv olds w hlo holds hspare hlim
def Ybad.lays189_ren : Go.Shelf.Ren := ⟨fun | 189 => 33 | 125 => 36 | 257 => 42 | 128 => 51 | 129 => 52 | 294 => 59 | 295 => 60 | 296 => 61 | 297 => 62 | 298 => 63 | 299 => 64 | 216 => 65 | 300 => 66 | 301 => 67 | 328 => 75 | 329 => 69 | 330 => 70 | 331 => 76 | 332 => 77 | 215 => 78 | 343 => 80 | n => n, fun | 28 => 24 | 3 => 3 | 46 => 39 | 0 => 0 | 51 => 133 | 53 => 40 | 4 => 4 | 183 => 126 | 182 => 125 | 131 => 130 | 5 => 5 | 9 => 9 | 218 => 148 | 222 => 152 | 228 => 157 | 229 => 158 | n => n, fun | n => n⟩
theorem Ybad.lays189 : Go.Proofs.Lays.n189 Ybad.prog Ybad.lays189_ren := {
  mixed := by kernel_rfl
  f125 := Ybad.func36.trans (congrArg some (by kernel_rfl))
  f128 := Ybad.func51.trans (congrArg some (by kernel_rfl))
  f129 := Ybad.func52.trans (congrArg some (by kernel_rfl))
  f189 := Ybad.func33.trans (congrArg some (by kernel_rfl))
  f215 := Ybad.func78.trans (congrArg some (by kernel_rfl))
  f216 := Ybad.func65.trans (congrArg some (by kernel_rfl))
  f257 := Ybad.func42.trans (congrArg some (by kernel_rfl))
  f294 := Ybad.func59.trans (congrArg some (by kernel_rfl))
  f295 := Ybad.func60.trans (congrArg some (by kernel_rfl))
  f296 := Ybad.func61.trans (congrArg some (by kernel_rfl))
  f297 := Ybad.func62.trans (congrArg some (by kernel_rfl))
  f298 := Ybad.func63.trans (congrArg some (by kernel_rfl))
  f299 := Ybad.func64.trans (congrArg some (by kernel_rfl))
  f300 := Ybad.func66.trans (congrArg some (by kernel_rfl))
  f301 := Ybad.func67.trans (congrArg some (by kernel_rfl))
  f328 := Ybad.func75.trans (congrArg some (by kernel_rfl))
  f329 := Ybad.func69.trans (congrArg some (by kernel_rfl))
  f330 := Ybad.func70.trans (congrArg some (by kernel_rfl))
  f331 := Ybad.func76.trans (congrArg some (by kernel_rfl))
  f332 := Ybad.func77.trans (congrArg some (by kernel_rfl))
  f343 := Ybad.func80.trans (congrArg some (by kernel_rfl))
  t0 := Ybad.underlying0
  a0 := Ybad.isAgg0
  z0 := Ybad.sizeOf0
  v0 := Ybad.zeroValue0
  t3 := Ybad.underlying3
  a3 := Ybad.isAgg3
  z3 := Ybad.sizeOf3
  v3 := Ybad.zeroValue3
  t4 := Ybad.underlying4
  a4 := Ybad.isAgg4
  z4 := Ybad.sizeOf4
  v4 := Ybad.zeroValue4
  t5 := Ybad.underlying5
  a5 := Ybad.isAgg5
  z5 := Ybad.sizeOf5
  v5 := Ybad.zeroValue5
  t9 := Ybad.underlying9
  a9 := Ybad.isAgg9
  z9 := Ybad.sizeOf9
  v9 := Ybad.zeroValue9
  t28 := Ybad.underlying24
  a28 := Ybad.isAgg24
  z28 := Ybad.sizeOf24
  v28 := Ybad.zeroValue24
  t46 := Ybad.underlying39
  a46 := Ybad.isAgg39
  z46 := Ybad.sizeOf39
  v46 := Ybad.zeroValue39
  t51 := Ybad.underlying133
  a51 := Ybad.isAgg133
  z51 := Ybad.sizeOf133
  v51 := Ybad.zeroValue133
  t53 := Ybad.underlying40
  a53 := Ybad.isAgg40
  z53 := Ybad.sizeOf40
  v53 := Ybad.zeroValue40
  t131 := Ybad.underlying130
  a131 := Ybad.isAgg130
  z131 := Ybad.sizeOf130
  v131 := Ybad.zeroValue130
  t182 := Ybad.underlying125
  a182 := Ybad.isAgg125
  z182 := Ybad.sizeOf125
  v182 := Ybad.zeroValue125
  t183 := Ybad.underlying126
  a183 := Ybad.isAgg126
  z183 := Ybad.sizeOf126
  v183 := Ybad.zeroValue126
  t218 := Ybad.underlying148
  a218 := Ybad.isAgg148
  z218 := Ybad.sizeOf148
  v218 := Ybad.zeroValue148
  t222 := Ybad.underlying152
  a222 := Ybad.isAgg152
  z222 := Ybad.sizeOf152
  v222 := Ybad.zeroValue152
  t228 := Ybad.underlying157
  a228 := Ybad.isAgg157
  z228 := Ybad.sizeOf157
  v228 := Ybad.zeroValue157
  t229 := Ybad.underlying158
  a229 := Ybad.isAgg158
  z229 := Ybad.sizeOf158
  v229 := Ybad.zeroValue158 }
open Go.Sort Go.RowKit in
theorem Ybad.slices_Sort_int (blk off cap : Nat) (zs : List Int) (w : World) (hH : Holds (Value.int .i64) w blk off zs.toArray) (hblk : blk < w.heap.size) (hsz : zs.length < 4611686018427387904) :
    Calls Ybad.prog 33 #[.slice (some ⟨blk, off, none⟩) zs.length cap] w fun e w' =>
      e = .returned (.tuple #[]) ∧ ∃ n os, w' = grow (putRow (Value.int .i64) (Sort.ahead w n) blk off (zs.mergeSort fun x y => decide (x ≤ y)).toArray) os := Any.slices_Sort_int Ybad.lays189 blk off cap zs w hH hblk hsz
def Ybad.lays108_ren : Go.Shelf.Ren := ⟨fun | 108 => 40 | n => n, fun | 28 => 24 | 3 => 3 | 0 => 0 | 4 => 4 | n => n, fun | n => n⟩
theorem Ybad.lays108 : Go.Proofs.Lays.n108 Ybad.prog Ybad.lays108_ren := {
  mixed := by kernel_rfl
  f108 := Ybad.func40.trans (congrArg some (by kernel_rfl))
  t0 := Ybad.underlying0
  a0 := Ybad.isAgg0
  z0 := Ybad.sizeOf0
  v0 := Ybad.zeroValue0
  t3 := Ybad.underlying3
  a3 := Ybad.isAgg3
  z3 := Ybad.sizeOf3
  v3 := Ybad.zeroValue3
  t4 := Ybad.underlying4
  a4 := Ybad.isAgg4
  z4 := Ybad.sizeOf4
  v4 := Ybad.zeroValue4
  t28 := Ybad.underlying24
  a28 := Ybad.isAgg24
  z28 := Ybad.sizeOf24
  v28 := Ybad.zeroValue24 }
open Go.Lib in
/-- slices.Index at []int: "Index returns the index of the first occurrence of v in s, or -1 if not present.": IT RETURNS 'Lib.idxOf (the elements) v'; the world is as it was. 'zs': what the cells behind the slice's address hold (its spare capacity too, if you have it); 'zs.take n': its elements. (LAID: no walk: one application.) -/
theorem Ybad.slices_Index_int (b off n c : Nat) (zs : List Int) (x : Int) (w : World) (hz : n ≤ zs.length) (hbig : n ≤ 9223372036854775807) (hc : ∀ j, j < zs.length → w.cell? ⟨b, off + j, none⟩ = some (.int .i64 (zs.getD j 0))) :
    Calls Ybad.prog 40 #[.slice (some ⟨b, off, none⟩) n c, .int .i64 x] w fun e w' => e = .returned (.int .i64 (Lib.idxOf (zs.take n) x)) ∧ w' = w := Any.slices_Index_int Ybad.lays108 b off n c zs x w hz hbig hc
open Go.Lib in
/-- The same at a slice of length 0, a nil one too: no cell is known, none is asked for. (LAID: no walk: one application.) -/
theorem Ybad.slices_Index_int_empty (a : Option Addr) (c : Nat) (x : Int) (w : World) :
    Calls Ybad.prog 40 #[.slice a 0 c, .int .i64 x] w fun e w' => e = .returned (.int .i64 (Lib.idxOf [] x)) ∧ w' = w := Any.slices_Index_int_empty Ybad.lays108 a c x w
def Ybad.lays107_ren : Go.Shelf.Ren := ⟨fun | 107 => 30 | 108 => 40 | n => n, fun | 28 => 24 | 3 => 3 | 4 => 4 | 0 => 0 | n => n, fun | n => n⟩
theorem Ybad.lays107 : Go.Proofs.Lays.n107 Ybad.prog Ybad.lays107_ren := {
  mixed := by kernel_rfl
  f107 := Ybad.func30.trans (congrArg some (by kernel_rfl))
  f108 := Ybad.func40.trans (congrArg some (by kernel_rfl))
  t0 := Ybad.underlying0
  a0 := Ybad.isAgg0
  z0 := Ybad.sizeOf0
  v0 := Ybad.zeroValue0
  t3 := Ybad.underlying3
  a3 := Ybad.isAgg3
  z3 := Ybad.sizeOf3
  v3 := Ybad.zeroValue3
  t4 := Ybad.underlying4
  a4 := Ybad.isAgg4
  z4 := Ybad.sizeOf4
  v4 := Ybad.zeroValue4
  t28 := Ybad.underlying24
  a28 := Ybad.isAgg24
  z28 := Ybad.sizeOf24
  v28 := Ybad.zeroValue24 }
open Go.Lib in
/-- slices.Contains at []int: "Contains reports whether v is present in s.": IT RETURNS 'elements.contains v'; the world is as it was. ITS CALLEE slices.Index IS MET BY ITS OWN CONTRACT OFF THE SHELF (lay that first): no loop is walked here. (LAID: no walk: one application.) -/
theorem Ybad.slices_Contains_int (b off n c : Nat) (zs : List Int) (x : Int) (w : World) (hz : n ≤ zs.length) (hbig : n ≤ 9223372036854775807) (hc : ∀ j, j < zs.length → w.cell? ⟨b, off + j, none⟩ = some (.int .i64 (zs.getD j 0))) :
    Calls Ybad.prog 30 #[.slice (some ⟨b, off, none⟩) n c, .int .i64 x] w fun e w' => e = .returned (.bool ((zs.take n).contains x)) ∧ w' = w := Any.slices_Contains_int Ybad.lays107 b off n c zs x w hz hbig hc
open Go.Lib in
/-- The same at a slice of length 0, a nil one too. (LAID: no walk: one application.) -/
theorem Ybad.slices_Contains_int_empty (a : Option Addr) (c : Nat) (x : Int) (w : World) :
    Calls Ybad.prog 30 #[.slice a 0 c, .int .i64 x] w fun e w' => e = .returned (.bool false) ∧ w' = w := Any.slices_Contains_int_empty Ybad.lays107 a c x w
def Ybad.lays111_ren : Go.Shelf.Ren := ⟨fun | 111 => 11 | n => n, fun | 28 => 24 | 3 => 3 | 4 => 4 | 0 => 0 | n => n, fun | n => n⟩
theorem Ybad.lays111 : Go.Proofs.Lays.n111 Ybad.prog Ybad.lays111_ren := {
  mixed := by kernel_rfl
  f111 := Ybad.func11.trans (congrArg some (by kernel_rfl))
  t0 := Ybad.underlying0
  a0 := Ybad.isAgg0
  z0 := Ybad.sizeOf0
  v0 := Ybad.zeroValue0
  t3 := Ybad.underlying3
  a3 := Ybad.isAgg3
  z3 := Ybad.sizeOf3
  v3 := Ybad.zeroValue3
  t4 := Ybad.underlying4
  a4 := Ybad.isAgg4
  z4 := Ybad.sizeOf4
  v4 := Ybad.zeroValue4
  t28 := Ybad.underlying24
  a28 := Ybad.isAgg24
  z28 := Ybad.sizeOf24
  v28 := Ybad.zeroValue24 }
open Go.RowKit Go.Lib in
/-- slices.Equal at []int: "Equal reports whether two slices are equal: the same length and all elements equal. If the lengths are different, Equal returns false. Otherwise, the elements are compared in increasing index order, and the comparison stops at the first unequal pair. Empty and nil slices are considered equal.": IT RETURNS WHETHER THE TWO LISTS OF ELEMENTS ARE ONE; the world is as it was but for the count of draws (the test 's1[i] != s2[i]' has two reads, whose order the model draws, once a round). 'xs', 'ys': what the cells behind the two addresses hold (the spare capacity too, if you have it); 'xs.take n', 'ys.take m': the elements. THE TWO SLICES MAY OVERLAP. (LAID: no walk: one application.) -/
theorem Ybad.slices_Equal_int (b1 o1 n c b2 o2 m d : Nat) (xs ys : List Int) (w : World) (hx : n ≤ xs.length) (hy : m ≤ ys.length) (hbig : n ≤ 9223372036854775807) (hbig2 : m ≤ 9223372036854775807) (hc1 : ∀ j, j < xs.length → w.cell? ⟨b1, o1 + j, none⟩ = some (.int .i64 (xs.getD j 0))) (hc2 : ∀ j, j < ys.length → w.cell? ⟨b2, o2 + j, none⟩ = some (.int .i64 (ys.getD j 0))) :
    Calls Ybad.prog 11 #[.slice (some ⟨b1, o1, none⟩) n c, .slice (some ⟨b2, o2, none⟩) m d] w fun e w' => e = .returned (.bool (xs.take n == ys.take m)) ∧ ∃ q, w' = w.drewN q := Any.slices_Equal_int Ybad.lays111 b1 o1 n c b2 o2 m d xs ys w hx hy hbig hbig2 hc1 hc2
open Go.RowKit Go.Lib in
/-- The same where the first is of length 0 (a nil one too): no cell is asked for. (LAID: no walk: one application.) -/
theorem Ybad.slices_Equal_int_empty (a1 a2 : Option Addr) (c m d : Nat) (w : World) (hbig2 : m ≤ 9223372036854775807) :
    Calls Ybad.prog 11 #[.slice a1 0 c, .slice a2 m d] w fun e w' => e = .returned (.bool (decide (m = 0))) ∧ w' = w := Any.slices_Equal_int_empty Ybad.lays111 a1 a2 c m d w hbig2
def Ybad.lays193_ren : Go.Shelf.Ren := ⟨fun | 193 => 10 | n => n, fun | 31 => 22 | 9 => 9 | 4 => 4 | 3 => 3 | 0 => 0 | n => n, fun | n => n⟩
theorem Ybad.lays193 : Go.Proofs.Lays.n193 Ybad.prog Ybad.lays193_ren := {
  mixed := by kernel_rfl
  f193 := Ybad.func10.trans (congrArg some (by kernel_rfl))
  t0 := Ybad.underlying0
  a0 := Ybad.isAgg0
  z0 := Ybad.sizeOf0
  v0 := Ybad.zeroValue0
  t3 := Ybad.underlying3
  a3 := Ybad.isAgg3
  z3 := Ybad.sizeOf3
  v3 := Ybad.zeroValue3
  t4 := Ybad.underlying4
  a4 := Ybad.isAgg4
  z4 := Ybad.sizeOf4
  v4 := Ybad.zeroValue4
  t9 := Ybad.underlying9
  a9 := Ybad.isAgg9
  z9 := Ybad.sizeOf9
  v9 := Ybad.zeroValue9
  t31 := Ybad.underlying22
  a31 := Ybad.isAgg22
  z31 := Ybad.sizeOf22
  v31 := Ybad.zeroValue22 }
open Go.RowKit Go.Lib in
/-- slices.Equal at []string: "Equal reports whether two slices are equal: the same length and all elements equal. If the lengths are different, Equal returns false. Otherwise, the elements are compared in increasing index order, and the comparison stops at the first unequal pair. Empty and nil slices are considered equal.": IT RETURNS WHETHER THE TWO LISTS OF ELEMENTS ARE ONE; the world is as it was but for the count of draws (the test 's1[i] != s2[i]' has two reads, whose order the model draws, once a round). 'xs', 'ys': what the cells behind the two addresses hold (the spare capacity too, if you have it); 'xs.take n', 'ys.take m': the elements. THE TWO SLICES MAY OVERLAP. (LAID: no walk: one application.) -/
theorem Ybad.slices_Equal_string (b1 o1 n c b2 o2 m d : Nat) (xs ys : List ByteArray) (w : World) (hx : n ≤ xs.length) (hy : m ≤ ys.length) (hbig : n ≤ 9223372036854775807) (hbig2 : m ≤ 9223372036854775807) (hc1 : ∀ j, j < xs.length → w.cell? ⟨b1, o1 + j, none⟩ = some (.string (xs.getD j ByteArray.empty))) (hc2 : ∀ j, j < ys.length → w.cell? ⟨b2, o2 + j, none⟩ = some (.string (ys.getD j ByteArray.empty))) :
    Calls Ybad.prog 10 #[.slice (some ⟨b1, o1, none⟩) n c, .slice (some ⟨b2, o2, none⟩) m d] w fun e w' => e = .returned (.bool (decide (xs.take n = ys.take m))) ∧ ∃ q, w' = w.drewN q := Any.slices_Equal_string Ybad.lays193 b1 o1 n c b2 o2 m d xs ys w hx hy hbig hbig2 hc1 hc2
open Go.RowKit Go.Lib in
/-- The same where the first is of length 0 (a nil one too): no cell is asked for. (LAID: no walk: one application.) -/
theorem Ybad.slices_Equal_string_empty (a1 a2 : Option Addr) (c m d : Nat) (w : World) (hbig2 : m ≤ 9223372036854775807) :
    Calls Ybad.prog 10 #[.slice a1 0 c, .slice a2 m d] w fun e w' => e = .returned (.bool (decide (m = 0))) ∧ w' = w := Any.slices_Equal_string_empty Ybad.lays193 a1 a2 c m d w hbig2
def Ybad.laysNm215_ren : Go.Shelf.Ren := ⟨fun | 15 => 4 | n => n, fun | 22 => 24 | 3 => 3 | 4 => 4 | n => n, fun | n => n⟩
theorem Ybad.laysNm215 : Go.Proofs.Lays2.n15 Ybad.prog Ybad.laysNm215_ren := {
  mixed := by kernel_rfl
  f15 := Ybad.func4.trans (congrArg some (by kernel_rfl))
  t3 := Ybad.underlying3
  a3 := Ybad.isAgg3
  z3 := Ybad.sizeOf3
  v3 := Ybad.zeroValue3
  t4 := Ybad.underlying4
  a4 := Ybad.isAgg4
  z4 := Ybad.sizeOf4
  v4 := Ybad.zeroValue4
  t22 := Ybad.underlying24
  a22 := Ybad.isAgg24
  z22 := Ybad.sizeOf24
  v22 := Ybad.zeroValue24
  i3 := by kernel_rfl }
open Go.RowKit Go.Lib in
/-- slices.Clone at []int: "Clone returns a copy of the slice. The elements are copied using assignment, so this is a shallow clone. The result may have additional unused capacity. The result preserves the nilness of s.": OF A SLICE THAT IS NOT nil IT RETURNS A SLICE THAT IS NOT nil, OF THE SAME ELEMENTS, IN MEMORY OF THE CALL's OWN: in the how-to's words (6f): 'w'.ownsRow B e 1 v' n cells': v' begins at the head of a row among the blocks from B on (B: the heap's size at the call), not frozen, whose first cells are the elements · 'Below B w w'': below B all is as it was. The capacity is whatever the run-time gives. 'zs': what the cells behind the slice's address hold; 'zs.take n': its elements. (LAID: no walk: one application.) -/
theorem Ybad.slices_Clone_int (b off n c : Nat) (zs : List Int) (w : World) (hz : n ≤ zs.length) (hbig : n * 8 ≤ 140737488355328) (hc : ∀ j, j < zs.length → w.cell? ⟨b, off + j, none⟩ = some (.int .i64 (zs.getD j 0))) :
    Calls Ybad.prog 4 #[.slice (some ⟨b, off, none⟩) n c] w fun e w' => ∃ v', e = .returned v' ∧ w'.ownsRow w.heap.size 3 1 v' n ((zs.take n).map (Value.int .i64)) ∧ v' ≠ .slice none 0 0 ∧ Below w.heap.size w w' := Any.slices_Clone_int Ybad.laysNm215 b off n c zs w hz hbig hc
open Go.RowKit Go.Lib in
/-- The same at nil: nil comes back; the world is as it was. (LAID: no walk: one application.) -/
theorem Ybad.slices_Clone_int_nil (n c : Nat) (w : World) :
    Calls Ybad.prog 4 #[.slice none n c] w fun e w' => e = .returned (.slice none 0 0) ∧ w' = w := Any.slices_Clone_int_nil Ybad.laysNm215 n c w
def Ybad.laysNm216_ren : Go.Shelf.Ren := ⟨fun | 16 => 6 | n => n, fun | 24 => 22 | 9 => 9 | 4 => 4 | n => n, fun | n => n⟩
theorem Ybad.laysNm216 : Go.Proofs.Lays2.n16 Ybad.prog Ybad.laysNm216_ren := {
  mixed := by kernel_rfl
  f16 := Ybad.func6.trans (congrArg some (by kernel_rfl))
  t4 := Ybad.underlying4
  a4 := Ybad.isAgg4
  z4 := Ybad.sizeOf4
  v4 := Ybad.zeroValue4
  t9 := Ybad.underlying9
  a9 := Ybad.isAgg9
  z9 := Ybad.sizeOf9
  v9 := Ybad.zeroValue9
  t24 := Ybad.underlying22
  a24 := Ybad.isAgg22
  z24 := Ybad.sizeOf22
  v24 := Ybad.zeroValue22
  i9 := by kernel_rfl }
open Go.RowKit Go.Lib in
/-- slices.Clone at []string: "Clone returns a copy of the slice. The elements are copied using assignment, so this is a shallow clone. The result may have additional unused capacity. The result preserves the nilness of s.": OF A SLICE THAT IS NOT nil IT RETURNS A SLICE THAT IS NOT nil, OF THE SAME ELEMENTS, IN MEMORY OF THE CALL's OWN: in the how-to's words (6f): 'w'.ownsRow B e 1 v' n cells': v' begins at the head of a row among the blocks from B on (B: the heap's size at the call), not frozen, whose first cells are the elements · 'Below B w w'': below B all is as it was. The capacity is whatever the run-time gives. 'zs': what the cells behind the slice's address hold; 'zs.take n': its elements. (LAID: no walk: one application.) -/
theorem Ybad.slices_Clone_string (b off n c : Nat) (zs : List ByteArray) (w : World) (hz : n ≤ zs.length) (hbig : n * 16 ≤ 140737488355328) (hc : ∀ j, j < zs.length → w.cell? ⟨b, off + j, none⟩ = some (.string (zs.getD j ByteArray.empty))) :
    Calls Ybad.prog 6 #[.slice (some ⟨b, off, none⟩) n c] w fun e w' => ∃ v', e = .returned v' ∧ w'.ownsRow w.heap.size 9 1 v' n ((zs.take n).map (Value.string)) ∧ v' ≠ .slice none 0 0 ∧ Below w.heap.size w w' := Any.slices_Clone_string Ybad.laysNm216 b off n c zs w hz hbig hc
open Go.RowKit Go.Lib in
/-- The same at nil: nil comes back; the world is as it was. (LAID: no walk: one application.) -/
theorem Ybad.slices_Clone_string_nil (n c : Nat) (w : World) :
    Calls Ybad.prog 6 #[.slice none n c] w fun e w' => e = .returned (.slice none 0 0) ∧ w' = w := Any.slices_Clone_string_nil Ybad.laysNm216 n c w
open Go.RowKit Go.Lib in
/-- The same at a slice of length 0 that is not nil, WHATEVER ITS ADDRESS (no cell is asked for): a slice that is not nil and owns nothing comes back. (LAID: no walk: one application.) -/
theorem Ybad.slices_Clone_int_zero (a : Addr) (c : Nat) (w : World) :
    Calls Ybad.prog 4 #[.slice (some a) 0 c] w fun e w' => ∃ v', e = .returned v' ∧ w'.ownsRow w.heap.size 3 1 v' 0 [] ∧ v' ≠ .slice none 0 0 ∧ Below w.heap.size w w' := Any.slices_Clone_int_zero Ybad.laysNm215 a c w
open Go.RowKit Go.Lib in
/-- The same at a slice of length 0 that is not nil, WHATEVER ITS ADDRESS (no cell is asked for): a slice that is not nil and owns nothing comes back. (LAID: no walk: one application.) -/
theorem Ybad.slices_Clone_string_zero (a : Addr) (c : Nat) (w : World) :
    Calls Ybad.prog 6 #[.slice (some a) 0 c] w fun e w' => ∃ v', e = .returned v' ∧ w'.ownsRow w.heap.size 9 1 v' 0 [] ∧ v' ≠ .slice none 0 0 ∧ Below w.heap.size w w' := Any.slices_Clone_string_zero Ybad.laysNm216 a c w
def Ybad.laysNm237_ren : Go.Shelf.Ren := ⟨fun | 37 => 78 | n => n, fun | 3 => 3 | 4 => 4 | n => n, fun | n => n⟩
theorem Ybad.laysNm237 : Go.Proofs.Lays2.n37 Ybad.prog Ybad.laysNm237_ren := {
  mixed := by kernel_rfl
  f37 := Ybad.func78.trans (congrArg some (by kernel_rfl))
  t3 := Ybad.underlying3
  a3 := Ybad.isAgg3
  z3 := Ybad.sizeOf3
  v3 := Ybad.zeroValue3
  t4 := Ybad.underlying4
  a4 := Ybad.isAgg4
  z4 := Ybad.sizeOf4
  v4 := Ybad.zeroValue4 }
open Go.RowKit Go.Lib in
/-- cmp.isNaN[int]: 'x != x': false. (LAID: no walk: one application.) -/
theorem Ybad.cmp_isNaN_int2 (x : Int) (w : World) :
    Calls Ybad.prog 78 #[.int .i64 x] w fun e w' => e = .returned (.bool false) ∧ w' = w := Any.cmp_isNaN_int2 Ybad.laysNm237 x w
def Ybad.laysNm231_ren : Go.Shelf.Ren := ⟨fun | 31 => 65 | 37 => 78 | n => n, fun | 3 => 3 | 4 => 4 | n => n, fun | n => n⟩
theorem Ybad.laysNm231 : Go.Proofs.Lays2.n31 Ybad.prog Ybad.laysNm231_ren := {
  mixed := by kernel_rfl
  f31 := Ybad.func65.trans (congrArg some (by kernel_rfl))
  f37 := Ybad.func78.trans (congrArg some (by kernel_rfl))
  t3 := Ybad.underlying3
  a3 := Ybad.isAgg3
  z3 := Ybad.sizeOf3
  v3 := Ybad.zeroValue3
  t4 := Ybad.underlying4
  a4 := Ybad.isAgg4
  z4 := Ybad.sizeOf4
  v4 := Ybad.zeroValue4 }
open Go.RowKit Go.Lib in
/-- cmp.Less[int]: "Less reports whether x is less than y.": 'x < y'; the world is as it was. (LAID: no walk: one application.) -/
theorem Ybad.cmp_Less_int2 (x y : Int) (w : World) :
    Calls Ybad.prog 65 #[.int .i64 x, .int .i64 y] w fun e w' => e = .returned (.bool (decide (x < y))) ∧ w' = w := Any.cmp_Less_int2 Ybad.laysNm231 x y w
open Go.RowKit Go.Sort in
/-- .. and plain. (LAID: no walk: one application.) -/
theorem Ybad.slices_Sort_int_none (p : Option Addr) (cap : Nat) (w : World) :
    Calls Ybad.prog 33 #[.slice p 0 cap] w fun e w' => e = .returned (.tuple #[]) ∧ w' = w := Any.slices_Sort_int_none Ybad.lays189 p cap w
open Go.RowKit Go.Lib in
theorem Ybad.slices_Equal_int_lens (a1 a2 : Option Addr) (n c m d : Nat) (w : World) (hnm : n ≠ m) :
    Calls Ybad.prog 11 #[.slice a1 n c, .slice a2 m d] w fun e w' => e = .returned (.bool false) ∧ w' = w := Any.slices_Equal_int_lens Ybad.lays111 a1 a2 n c m d w hnm
open Go.RowKit Go.Lib in
theorem Ybad.slices_Equal_string_lens (a1 a2 : Option Addr) (n c m d : Nat) (w : World) (hnm : n ≠ m) :
    Calls Ybad.prog 10 #[.slice a1 n c, .slice a2 m d] w fun e w' => e = .returned (.bool false) ∧ w' = w := Any.slices_Equal_string_lens Ybad.lays193 a1 a2 n c m d w hnm
def Ybad.laysSlE33_f10_ren : Go.Shelf.Ren := ⟨fun | 33 => 10 | n => n, fun | 22 => 22 | 23 => 9 | 4 => 4 | 3 => 3 | 0 => 0 | n => n, fun | n => n⟩
theorem Ybad.laysSlE33_f10 : Go.Proofs.SlLaysE.n33 Ybad.prog Ybad.laysSlE33_f10_ren := {
  mixed := by kernel_rfl
  f33 := ⟨Ybad.f10.name, by decide, Ybad.func10.trans (congrArg some (by kernel_rfl))⟩
  t0 := Ybad.underlying0
  a0 := Ybad.isAgg0
  z0 := Ybad.sizeOf0
  v0 := Ybad.zeroValue0
  t3 := Ybad.underlying3
  a3 := Ybad.isAgg3
  z3 := Ybad.sizeOf3
  v3 := Ybad.zeroValue3
  t4 := Ybad.underlying4
  a4 := Ybad.isAgg4
  z4 := Ybad.sizeOf4
  v4 := Ybad.zeroValue4
  t22 := Ybad.underlying22
  a22 := Ybad.isAgg22
  z22 := Ybad.sizeOf22
  v22 := Ybad.zeroValue22
  a23 := Ybad.isAgg9
  z23 := Ybad.sizeOf9 }
open Go.RowKit Go.Lib in
/-- slices.Equal: "Equal reports whether two slices are equal: the same length and all elements equal. .. Empty and nil slices are considered equal. Floating point NaNs are not considered equal.": IT RETURNS 'Lib.allEq eq (the one's elements) (the other's)'; the world is as it was but for the count of draws. (LAID AT THE INSTANCE 'slices.Equal[[]string,string]': no walk: one application.) -/
theorem Ybad.slices_Equal_f10 {α : Type} [Inhabited α] (enc : α → Value) (eq : α → α → Bool) (hne : NeqAt Ybad.prog 9 enc eq) (b1 o1 n c b2 o2 m d : Nat) (xs ys : List α) (w : World) (hx : n ≤ xs.length) (hy : m ≤ ys.length) (hbig : n ≤ 9223372036854775807) (hbig2 : m ≤ 9223372036854775807) (hc1 : ∀ j, j < xs.length → w.cell? ⟨b1, o1 + j, none⟩ = some (enc xs[j]!)) (hc2 : ∀ j, j < ys.length → w.cell? ⟨b2, o2 + j, none⟩ = some (enc ys[j]!)) :
    Calls Ybad.prog 10 #[.slice (some ⟨b1, o1, none⟩) n c, .slice (some ⟨b2, o2, none⟩) m d] w fun e w' => e = .returned (.bool (Lib.allEq eq (xs.take n) (ys.take m))) ∧ ∃ q, w' = w.drewN q := AnyE.slices_Equal Ybad.laysSlE33_f10 enc eq hne b1 o1 n c b2 o2 m d xs ys w hx hy hbig hbig2 hc1 hc2
def Ybad.laysSlE33_f11_ren : Go.Shelf.Ren := ⟨fun | 33 => 11 | n => n, fun | 22 => 24 | 23 => 3 | 4 => 4 | 3 => 3 | 0 => 0 | n => n, fun | n => n⟩
theorem Ybad.laysSlE33_f11 : Go.Proofs.SlLaysE.n33 Ybad.prog Ybad.laysSlE33_f11_ren := {
  mixed := by kernel_rfl
  f33 := ⟨Ybad.f11.name, by decide, Ybad.func11.trans (congrArg some (by kernel_rfl))⟩
  t0 := Ybad.underlying0
  a0 := Ybad.isAgg0
  z0 := Ybad.sizeOf0
  v0 := Ybad.zeroValue0
  t3 := Ybad.underlying3
  a3 := Ybad.isAgg3
  z3 := Ybad.sizeOf3
  v3 := Ybad.zeroValue3
  t4 := Ybad.underlying4
  a4 := Ybad.isAgg4
  z4 := Ybad.sizeOf4
  v4 := Ybad.zeroValue4
  t22 := Ybad.underlying24
  a22 := Ybad.isAgg24
  z22 := Ybad.sizeOf24
  v22 := Ybad.zeroValue24
  a23 := Ybad.isAgg3
  z23 := Ybad.sizeOf3 }
open Go.RowKit Go.Lib in
/-- slices.Equal: "Equal reports whether two slices are equal: the same length and all elements equal. .. Empty and nil slices are considered equal. Floating point NaNs are not considered equal.": IT RETURNS 'Lib.allEq eq (the one's elements) (the other's)'; the world is as it was but for the count of draws. (LAID AT THE INSTANCE 'slices.Equal[[]int,int]': no walk: one application.) -/
theorem Ybad.slices_Equal_f11 {α : Type} [Inhabited α] (enc : α → Value) (eq : α → α → Bool) (hne : NeqAt Ybad.prog 3 enc eq) (b1 o1 n c b2 o2 m d : Nat) (xs ys : List α) (w : World) (hx : n ≤ xs.length) (hy : m ≤ ys.length) (hbig : n ≤ 9223372036854775807) (hbig2 : m ≤ 9223372036854775807) (hc1 : ∀ j, j < xs.length → w.cell? ⟨b1, o1 + j, none⟩ = some (enc xs[j]!)) (hc2 : ∀ j, j < ys.length → w.cell? ⟨b2, o2 + j, none⟩ = some (enc ys[j]!)) :
    Calls Ybad.prog 11 #[.slice (some ⟨b1, o1, none⟩) n c, .slice (some ⟨b2, o2, none⟩) m d] w fun e w' => e = .returned (.bool (Lib.allEq eq (xs.take n) (ys.take m))) ∧ ∃ q, w' = w.drewN q := AnyE.slices_Equal Ybad.laysSlE33_f11 enc eq hne b1 o1 n c b2 o2 m d xs ys w hx hy hbig hbig2 hc1 hc2
def Ybad.laysSlE041_f4_ren : Go.Shelf.Ren := ⟨fun | 41 => 4 | n => n, fun | 22 => 24 | 23 => 3 | 4 => 4 | n => n, fun | n => n⟩
theorem Ybad.laysSlE041_f4 : Go.Proofs.SlLaysE0.n41 Ybad.prog Ybad.laysSlE041_f4_ren := {
  mixed := by kernel_rfl
  f41 := ⟨Ybad.f4.name, by decide, Ybad.func4.trans (congrArg some (by kernel_rfl))⟩
  t4 := Ybad.underlying4
  a4 := Ybad.isAgg4
  z4 := Ybad.sizeOf4
  v4 := Ybad.zeroValue4
  t22 := Ybad.underlying24
  a22 := Ybad.isAgg24
  z22 := Ybad.sizeOf24
  v22 := Ybad.zeroValue24 }
open Go.RowKit Go.Lib in
/-- slices.Clone: "Clone returns a copy of the slice. The elements are copied using assignment, so this is a shallow clone. The result may have additional unused capacity. The result preserves the nilness of s.": OF A SLICE THAT IS NOT nil IT RETURNS A SLICE THAT IS NOT nil, OF THE SAME CELLS, IN MEMORY OF THE CALL's OWN ('ownsRow': the how-to's 6f); below the heap's size at the call all is as it was. (LAID AT THE INSTANCE 'slices.Clone[[]int,int]': no walk: one application.) -/
theorem Ybad.slices_Clone_f4 (i0 : TypeInfo) (z : Value) (size bytes : Nat) (hi : Ybad.prog.info? 3 = some i0) (hz0 : i0.zero = some z) (hz1 : i0.size = size) (hz2 : i0.bytes = bytes) (hzs : z.cells.size = size) (hsz : 0 < size) (z23 : ∀ w, (Go.sizeOf 3).run Ybad.prog w = .ok size w) (b off n c : Nat) (news : List Value) (w : World) (hl : news.length = n * size) (hn : n ≤ maxLen) (hbig : n * bytes ≤ 140737488355328) (hc : ∀ j u, news[j]? = some u → w.cell? ⟨b, off + j, none⟩ = some u) (h1 : ∀ u ∈ news, u.oneCell' = true) :
    Calls Ybad.prog 4 #[.slice (some ⟨b, off, none⟩) n c] w fun e w' => ∃ v', e = .returned v' ∧ w'.ownsRow w.heap.size 3 size v' n news ∧ v' ≠ .slice none 0 0 ∧ Below w.heap.size w w' := AnyE.slices_Clone Ybad.laysSlE041_f4 i0 z size bytes hi hz0 hz1 hz2 hzs hsz z23 b off n c news w hl hn hbig hc h1
def Ybad.laysSlE041_f6_ren : Go.Shelf.Ren := ⟨fun | 41 => 6 | n => n, fun | 22 => 22 | 23 => 9 | 4 => 4 | n => n, fun | n => n⟩
theorem Ybad.laysSlE041_f6 : Go.Proofs.SlLaysE0.n41 Ybad.prog Ybad.laysSlE041_f6_ren := {
  mixed := by kernel_rfl
  f41 := ⟨Ybad.f6.name, by decide, Ybad.func6.trans (congrArg some (by kernel_rfl))⟩
  t4 := Ybad.underlying4
  a4 := Ybad.isAgg4
  z4 := Ybad.sizeOf4
  v4 := Ybad.zeroValue4
  t22 := Ybad.underlying22
  a22 := Ybad.isAgg22
  z22 := Ybad.sizeOf22
  v22 := Ybad.zeroValue22 }
open Go.RowKit Go.Lib in
/-- slices.Clone: "Clone returns a copy of the slice. The elements are copied using assignment, so this is a shallow clone. The result may have additional unused capacity. The result preserves the nilness of s.": OF A SLICE THAT IS NOT nil IT RETURNS A SLICE THAT IS NOT nil, OF THE SAME CELLS, IN MEMORY OF THE CALL's OWN ('ownsRow': the how-to's 6f); below the heap's size at the call all is as it was. (LAID AT THE INSTANCE 'slices.Clone[[]string,string]': no walk: one application.) -/
theorem Ybad.slices_Clone_f6 (i0 : TypeInfo) (z : Value) (size bytes : Nat) (hi : Ybad.prog.info? 9 = some i0) (hz0 : i0.zero = some z) (hz1 : i0.size = size) (hz2 : i0.bytes = bytes) (hzs : z.cells.size = size) (hsz : 0 < size) (z23 : ∀ w, (Go.sizeOf 9).run Ybad.prog w = .ok size w) (b off n c : Nat) (news : List Value) (w : World) (hl : news.length = n * size) (hn : n ≤ maxLen) (hbig : n * bytes ≤ 140737488355328) (hc : ∀ j u, news[j]? = some u → w.cell? ⟨b, off + j, none⟩ = some u) (h1 : ∀ u ∈ news, u.oneCell' = true) :
    Calls Ybad.prog 6 #[.slice (some ⟨b, off, none⟩) n c] w fun e w' => ∃ v', e = .returned v' ∧ w'.ownsRow w.heap.size 9 size v' n news ∧ v' ≠ .slice none 0 0 ∧ Below w.heap.size w w' := AnyE.slices_Clone Ybad.laysSlE041_f6 i0 z size bytes hi hz0 hz1 hz2 hzs hsz z23 b off n c news w hl hn hbig hc h1
open Go.RowKit Go.Lib in
/-- The same at nil: nil comes back; the world is as it was; nothing is asked of the element's type. (LAID AT THE INSTANCE 'slices.Clone[[]int,int]': no walk: one application.) -/
theorem Ybad.slices_Clone_nil_f4 (n c : Nat) (w : World) :
    Calls Ybad.prog 4 #[.slice none n c] w fun e w' => e = .returned (.slice none 0 0) ∧ w' = w := AnyE.slices_Clone_nil Ybad.laysSlE041_f4 n c w
open Go.RowKit Go.Lib in
/-- The same at nil: nil comes back; the world is as it was; nothing is asked of the element's type. (LAID AT THE INSTANCE 'slices.Clone[[]string,string]': no walk: one application.) -/
theorem Ybad.slices_Clone_nil_f6 (n c : Nat) (w : World) :
    Calls Ybad.prog 6 #[.slice none n c] w fun e w' => e = .returned (.slice none 0 0) ∧ w' = w := AnyE.slices_Clone_nil Ybad.laysSlE041_f6 n c w
def Ybad.laysSlF20_f43_ren : Go.Shelf.Ren := ⟨fun | 20 => 43 | n => n, fun | 24 => 24 | 22 => 85 | 3 => 3 | 25 => 104 | 4 => 4 | 0 => 0 | n => n, fun | n => n⟩
theorem Ybad.laysSlF20_f43 : Go.Proofs.SlLaysF.n20 Ybad.prog Ybad.laysSlF20_f43_ren := {
  mixed := by kernel_rfl
  f20 := ⟨Ybad.f43.name, by decide, Ybad.func43.trans (congrArg some (by kernel_rfl))⟩
  t0 := Ybad.underlying0
  a0 := Ybad.isAgg0
  z0 := Ybad.sizeOf0
  v0 := Ybad.zeroValue0
  t3 := Ybad.underlying3
  a3 := Ybad.isAgg3
  z3 := Ybad.sizeOf3
  v3 := Ybad.zeroValue3
  t4 := Ybad.underlying4
  a4 := Ybad.isAgg4
  z4 := Ybad.sizeOf4
  v4 := Ybad.zeroValue4
  t22 := Ybad.underlying85
  a22 := Ybad.isAgg85
  z22 := Ybad.sizeOf85
  v22 := Ybad.zeroValue85
  a24 := Ybad.isAgg24
  z24 := Ybad.sizeOf24
  t25 := Ybad.underlying104
  a25 := Ybad.isAgg104
  z25 := Ybad.sizeOf104
  v25 := Ybad.zeroValue104 }
open Go.RowKit Go.Lib Go.Sort in
theorem Ybad.insertionSortCmpFunc_one {α : Type} [Inhabited α] (enc : α → Value) (hO : OneCell enc) (cf : α → α → Int) (g : Nat) (cb : Array Value) (blk off cap a b : Nat) (d : Array α) (w : World) (eg : ∀ args w, (callFunc g args).run Ybad.prog w = .ok (.enter g args) w) (hcmp : CmpReads Ybad.prog g cb enc cf blk off d.size w) (hH : Holds enc w blk off d) (hab : a ≤ b) (hb : b ≤ d.size) (hsz : d.size < 4611686018427387904) :
    Calls Ybad.prog 43 #[.slice (some ⟨blk, off, none⟩) d.size cap, .int .i64 a, .int .i64 b, .func (.func g) #[] cb] w fun e w' =>
      e = .returned (.tuple #[]) ∧ ∃ n, w' = (putRow enc w blk off (Sort.insertionSort (ltOf cf) d a b)).drewN n := Any.insertionSortCmpFunc_one Ybad.laysSlF20_f43 enc hO cf g cb blk off cap a b d w eg hcmp hH hab hb hsz
def Ybad.laysSlF46_f68_ren : Go.Shelf.Ren := ⟨fun | 46 => 68 | n => n, fun | 24 => 24 | 22 => 85 | 3 => 3 | 25 => 104 | 4 => 4 | 0 => 0 | n => n, fun | n => n⟩
theorem Ybad.laysSlF46_f68 : Go.Proofs.SlLaysF.n46 Ybad.prog Ybad.laysSlF46_f68_ren := {
  mixed := by kernel_rfl
  f46 := ⟨Ybad.f68.name, by decide, Ybad.func68.trans (congrArg some (by kernel_rfl))⟩
  t0 := Ybad.underlying0
  a0 := Ybad.isAgg0
  z0 := Ybad.sizeOf0
  v0 := Ybad.zeroValue0
  t3 := Ybad.underlying3
  a3 := Ybad.isAgg3
  z3 := Ybad.sizeOf3
  v3 := Ybad.zeroValue3
  t4 := Ybad.underlying4
  a4 := Ybad.isAgg4
  z4 := Ybad.sizeOf4
  v4 := Ybad.zeroValue4
  t22 := Ybad.underlying85
  a22 := Ybad.isAgg85
  z22 := Ybad.sizeOf85
  v22 := Ybad.zeroValue85
  a24 := Ybad.isAgg24
  z24 := Ybad.sizeOf24
  t25 := Ybad.underlying104
  a25 := Ybad.isAgg104
  z25 := Ybad.sizeOf104
  v25 := Ybad.zeroValue104 }
open Go.RowKit Go.Lib Go.Sort in
/-- slices.siftDownCmpFunc at elements of one cell: from a world of the sort's to a world of the sort's. (LAID AT THE INSTANCE 'slices.siftDownCmpFunc[[]int]': no walk: one application.) -/
theorem Ybad.siftDownCmpFunc {α : Type} [Inhabited α] (enc : α → Value) (cf : α → α → Int) (g : Nat) (cb : Array Value) (blk off cap lo hi first : Nat) (d0 d : Array α) (w0 w : World) (eg : ∀ args w, (callFunc g args).run Ybad.prog w = .ok (.enter g args) w) (hcmp : CmpLays1 Ybad.prog g cb enc cf blk off d0.size w0) (R : Row1 enc w0 blk off d0) (hs : d0.size = d.size) (S : SW enc w0 blk off d w) (hlo : lo ≤ hi) (hb : first + hi ≤ d.size) (hsz : d.size < 4611686018427387904) :
    Calls Ybad.prog 68 #[.slice (some ⟨blk, off, none⟩) d.size cap, .int .i64 lo, .int .i64 hi, .int .i64 first, .func (.func g) #[] cb] w fun e w' =>
      e = .returned (.tuple #[]) ∧ SW enc w0 blk off (siftDown (ltOf cf) hi first lo d) w' := Any.siftDownCmpFunc Ybad.laysSlF46_f68 enc cf g cb blk off cap lo hi first d0 d w0 w eg hcmp R hs S hlo hb hsz
def Ybad.laysSlF21_f44_ren : Go.Shelf.Ren := ⟨fun | 21 => 44 | 46 => 68 | n => n, fun | 24 => 24 | 22 => 85 | 3 => 3 | 25 => 104 | 4 => 4 | 0 => 0 | n => n, fun | n => n⟩
theorem Ybad.laysSlF21_f44 : Go.Proofs.SlLaysF.n21 Ybad.prog Ybad.laysSlF21_f44_ren := {
  mixed := by kernel_rfl
  f21 := ⟨Ybad.f44.name, by decide, Ybad.func44.trans (congrArg some (by kernel_rfl))⟩
  f46 := ⟨Ybad.f68.name, by decide, Ybad.func68.trans (congrArg some (by kernel_rfl))⟩
  t0 := Ybad.underlying0
  a0 := Ybad.isAgg0
  z0 := Ybad.sizeOf0
  v0 := Ybad.zeroValue0
  t3 := Ybad.underlying3
  a3 := Ybad.isAgg3
  z3 := Ybad.sizeOf3
  v3 := Ybad.zeroValue3
  t4 := Ybad.underlying4
  a4 := Ybad.isAgg4
  z4 := Ybad.sizeOf4
  v4 := Ybad.zeroValue4
  t22 := Ybad.underlying85
  a22 := Ybad.isAgg85
  z22 := Ybad.sizeOf85
  v22 := Ybad.zeroValue85
  a24 := Ybad.isAgg24
  z24 := Ybad.sizeOf24
  t25 := Ybad.underlying104
  a25 := Ybad.isAgg104
  z25 := Ybad.sizeOf104
  v25 := Ybad.zeroValue104 }
open Go.RowKit Go.Lib Go.Sort in
/-- slices.heapSortCmpFunc at elements of one cell. (LAID AT THE INSTANCE 'slices.heapSortCmpFunc[[]int]': no walk: one application.) -/
theorem Ybad.heapSortCmpFunc {α : Type} [Inhabited α] (enc : α → Value) (cf : α → α → Int) (g : Nat) (cb : Array Value) (blk off cap a b : Nat) (d0 d : Array α) (w0 w : World) (eg : ∀ args w, (callFunc g args).run Ybad.prog w = .ok (.enter g args) w) (hcmp : CmpLays1 Ybad.prog g cb enc cf blk off d0.size w0) (R : Row1 enc w0 blk off d0) (hs : d0.size = d.size) (S : SW enc w0 blk off d w) (hab : a ≤ b) (hb : b ≤ d.size) (hsz : d.size < 4611686018427387904) :
    Calls Ybad.prog 44 #[.slice (some ⟨blk, off, none⟩) d.size cap, .int .i64 a, .int .i64 b, .func (.func g) #[] cb] w fun e w' =>
      e = .returned (.tuple #[]) ∧ SW enc w0 blk off (heapSort (ltOf cf) d a b) w' := Any.heapSortCmpFunc Ybad.laysSlF21_f44 enc cf g cb blk off cap a b d0 d w0 w eg hcmp R hs S hab hb hsz
open Go.RowKit Go.Lib Go.Sort in
/-- slices.insertionSortCmpFunc at elements of one cell: from a world of the sort's to a world of the sort's. (LAID AT THE INSTANCE 'slices.insertionSortCmpFunc[[]int]': no walk: one application.) -/
theorem Ybad.insertionSortCmpFunc_s {α : Type} [Inhabited α] (enc : α → Value) (cf : α → α → Int) (g : Nat) (cb : Array Value) (blk off cap a b : Nat) (d0 d : Array α) (w0 w : World) (eg : ∀ args w, (callFunc g args).run Ybad.prog w = .ok (.enter g args) w) (hcmp : CmpLays1 Ybad.prog g cb enc cf blk off d0.size w0) (R : Row1 enc w0 blk off d0) (hs : d0.size = d.size) (S : SW enc w0 blk off d w) (hab : a ≤ b) (hb : b ≤ d.size) (hsz : d.size < 4611686018427387904) :
    Calls Ybad.prog 43 #[.slice (some ⟨blk, off, none⟩) d.size cap, .int .i64 a, .int .i64 b, .func (.func g) #[] cb] w fun e w' => e = .returned (.tuple #[]) ∧ SW enc w0 blk off (Sort.insertionSort (ltOf cf) d a b) w' := Any.insertionSortCmpFunc_s Ybad.laysSlF20_f43 enc cf g cb blk off cap a b d0 d w0 w eg hcmp R hs S hab hb hsz
def Ybad.laysSlF57_f79_ren : Go.Shelf.Ren := ⟨fun | 57 => 79 | n => n, fun | 24 => 24 | 22 => 85 | 3 => 3 | 70 => 152 | 25 => 104 | 0 => 0 | 4 => 4 | n => n, fun | n => n⟩
theorem Ybad.laysSlF57_f79 : Go.Proofs.SlLaysF.n57 Ybad.prog Ybad.laysSlF57_f79_ren := {
  mixed := by kernel_rfl
  f57 := ⟨Ybad.f79.name, by decide, Ybad.func79.trans (congrArg some (by kernel_rfl))⟩
  t0 := Ybad.underlying0
  a0 := Ybad.isAgg0
  z0 := Ybad.sizeOf0
  v0 := Ybad.zeroValue0
  t3 := Ybad.underlying3
  a3 := Ybad.isAgg3
  z3 := Ybad.sizeOf3
  v3 := Ybad.zeroValue3
  t4 := Ybad.underlying4
  a4 := Ybad.isAgg4
  z4 := Ybad.sizeOf4
  v4 := Ybad.zeroValue4
  t22 := Ybad.underlying85
  a22 := Ybad.isAgg85
  z22 := Ybad.sizeOf85
  v22 := Ybad.zeroValue85
  a24 := Ybad.isAgg24
  z24 := Ybad.sizeOf24
  t25 := Ybad.underlying104
  a25 := Ybad.isAgg104
  z25 := Ybad.sizeOf104
  v25 := Ybad.zeroValue104
  t70 := Ybad.underlying152
  a70 := Ybad.isAgg152
  z70 := Ybad.sizeOf152
  v70 := Ybad.zeroValue152 }
open Go.RowKit Go.Lib Go.Sort in
/-- slices.order2CmpFunc at elements of one cell. (LAID AT THE INSTANCE 'slices.order2CmpFunc[[]int]': no walk: one application.) -/
theorem Ybad.order2CmpFunc {α : Type} [Inhabited α] (enc : α → Value) (cf : α → α → Int) (g : Nat) (cb : Array Value) (blk off cap a b c s : Nat) (d0 d : Array α) (w0 W : World) (eg : ∀ args w, (callFunc g args).run Ybad.prog w = .ok (.enter g args) w) (hcmp : CmpLays1 Ybad.prog g cb enc cf blk off d0.size w0) (R : Row1 enc w0 blk off d0) (hs : d0.size = d.size) (C : Cnt1 enc w0 blk off d c s W) (ha : a < d.size) (hb : b < d.size) (hsz : d.size < 4611686018427387904) (hss : s < 4611686018427387904) :
    Calls Ybad.prog 79 #[.slice (some ⟨blk, off, none⟩) d.size cap, .int .i64 a, .int .i64 b, .pointer (some ⟨c, 0, none⟩), .func (.func g) #[] cb] W fun e w' =>
      e = .returned (.tuple #[.int .i64 (order2 (ltOf cf) d a b s).1, .int .i64 (order2 (ltOf cf) d a b s).2.1]) ∧ Cnt1 enc w0 blk off d c (order2 (ltOf cf) d a b s).2.2 w' := Any.order2CmpFunc Ybad.laysSlF57_f79 enc cf g cb blk off cap a b c s d0 d w0 W eg hcmp R hs C ha hb hsz hss
def Ybad.laysSlF50_f72_ren : Go.Shelf.Ren := ⟨fun | 50 => 72 | 57 => 79 | n => n, fun | 24 => 24 | 22 => 85 | 3 => 3 | 70 => 152 | 25 => 104 | 77 => 158 | 0 => 0 | 4 => 4 | n => n, fun | n => n⟩
theorem Ybad.laysSlF50_f72 : Go.Proofs.SlLaysF.n50 Ybad.prog Ybad.laysSlF50_f72_ren := {
  mixed := by kernel_rfl
  f50 := ⟨Ybad.f72.name, by decide, Ybad.func72.trans (congrArg some (by kernel_rfl))⟩
  f57 := ⟨Ybad.f79.name, by decide, Ybad.func79.trans (congrArg some (by kernel_rfl))⟩
  t0 := Ybad.underlying0
  a0 := Ybad.isAgg0
  z0 := Ybad.sizeOf0
  v0 := Ybad.zeroValue0
  t3 := Ybad.underlying3
  a3 := Ybad.isAgg3
  z3 := Ybad.sizeOf3
  v3 := Ybad.zeroValue3
  t4 := Ybad.underlying4
  a4 := Ybad.isAgg4
  z4 := Ybad.sizeOf4
  v4 := Ybad.zeroValue4
  t22 := Ybad.underlying85
  a22 := Ybad.isAgg85
  z22 := Ybad.sizeOf85
  v22 := Ybad.zeroValue85
  a24 := Ybad.isAgg24
  z24 := Ybad.sizeOf24
  t25 := Ybad.underlying104
  a25 := Ybad.isAgg104
  z25 := Ybad.sizeOf104
  v25 := Ybad.zeroValue104
  t70 := Ybad.underlying152
  a70 := Ybad.isAgg152
  z70 := Ybad.sizeOf152
  v70 := Ybad.zeroValue152
  t77 := Ybad.underlying158
  a77 := Ybad.isAgg158
  z77 := Ybad.sizeOf158
  v77 := Ybad.zeroValue158 }
open Go.RowKit Go.Lib Go.Sort in
/-- slices.medianCmpFunc at elements of one cell. (LAID AT THE INSTANCE 'slices.medianCmpFunc[[]int]': no walk: one application.) -/
theorem Ybad.medianCmpFunc {α : Type} [Inhabited α] (enc : α → Value) (cf : α → α → Int) (g : Nat) (cb : Array Value) (blk off cap a b c' c s : Nat) (d0 d : Array α) (w0 W : World) (eg : ∀ args w, (callFunc g args).run Ybad.prog w = .ok (.enter g args) w) (hcmp : CmpLays1 Ybad.prog g cb enc cf blk off d0.size w0) (R : Row1 enc w0 blk off d0) (hs : d0.size = d.size) (C : Cnt1 enc w0 blk off d c s W) (ha : a < d.size) (hb : b < d.size) (hc : c' < d.size) (hsz : d.size < 4611686018427387904) (hss : s + 3 < 4611686018427387904) :
    Calls Ybad.prog 72 #[.slice (some ⟨blk, off, none⟩) d.size cap, .int .i64 a, .int .i64 b, .int .i64 c', .pointer (some ⟨c, 0, none⟩), .func (.func g) #[] cb] W fun e w' =>
      e = .returned (.int .i64 (median (ltOf cf) d a b c' s).1) ∧ Cnt1 enc w0 blk off d c (median (ltOf cf) d a b c' s).2 w' := Any.medianCmpFunc Ybad.laysSlF50_f72 enc cf g cb blk off cap a b c' c s d0 d w0 W eg hcmp R hs C ha hb hc hsz hss
def Ybad.laysSlF49_f71_ren : Go.Shelf.Ren := ⟨fun | 49 => 71 | 50 => 72 | 57 => 79 | n => n, fun | 24 => 24 | 22 => 85 | 3 => 3 | 70 => 152 | 25 => 104 | 77 => 158 | 0 => 0 | 4 => 4 | n => n, fun | n => n⟩
theorem Ybad.laysSlF49_f71 : Go.Proofs.SlLaysF.n49 Ybad.prog Ybad.laysSlF49_f71_ren := {
  mixed := by kernel_rfl
  f49 := ⟨Ybad.f71.name, by decide, Ybad.func71.trans (congrArg some (by kernel_rfl))⟩
  f50 := ⟨Ybad.f72.name, by decide, Ybad.func72.trans (congrArg some (by kernel_rfl))⟩
  f57 := ⟨Ybad.f79.name, by decide, Ybad.func79.trans (congrArg some (by kernel_rfl))⟩
  t0 := Ybad.underlying0
  a0 := Ybad.isAgg0
  z0 := Ybad.sizeOf0
  v0 := Ybad.zeroValue0
  t3 := Ybad.underlying3
  a3 := Ybad.isAgg3
  z3 := Ybad.sizeOf3
  v3 := Ybad.zeroValue3
  t4 := Ybad.underlying4
  a4 := Ybad.isAgg4
  z4 := Ybad.sizeOf4
  v4 := Ybad.zeroValue4
  t22 := Ybad.underlying85
  a22 := Ybad.isAgg85
  z22 := Ybad.sizeOf85
  v22 := Ybad.zeroValue85
  a24 := Ybad.isAgg24
  z24 := Ybad.sizeOf24
  t25 := Ybad.underlying104
  a25 := Ybad.isAgg104
  z25 := Ybad.sizeOf104
  v25 := Ybad.zeroValue104
  t70 := Ybad.underlying152
  a70 := Ybad.isAgg152
  z70 := Ybad.sizeOf152
  v70 := Ybad.zeroValue152
  t77 := Ybad.underlying158
  a77 := Ybad.isAgg158
  z77 := Ybad.sizeOf158
  v77 := Ybad.zeroValue158 }
open Go.RowKit Go.Lib Go.Sort in
/-- slices.medianAdjacentCmpFunc at elements of one cell. (LAID AT THE INSTANCE 'slices.medianAdjacentCmpFunc[[]int]': no walk: one application.) -/
theorem Ybad.medianAdjacentCmpFunc {α : Type} [Inhabited α] (enc : α → Value) (cf : α → α → Int) (g : Nat) (cb : Array Value) (blk off cap a c s : Nat) (d0 d : Array α) (w0 W : World) (eg : ∀ args w, (callFunc g args).run Ybad.prog w = .ok (.enter g args) w) (hcmp : CmpLays1 Ybad.prog g cb enc cf blk off d0.size w0) (R : Row1 enc w0 blk off d0) (hs : d0.size = d.size) (C : Cnt1 enc w0 blk off d c s W) (ha1 : 1 ≤ a) (ha2 : a + 1 < d.size) (hsz : d.size < 4611686018427387904) (hss : s + 3 < 4611686018427387904) :
    Calls Ybad.prog 71 #[.slice (some ⟨blk, off, none⟩) d.size cap, .int .i64 a, .pointer (some ⟨c, 0, none⟩), .func (.func g) #[] cb] W fun e w' =>
      e = .returned (.int .i64 (medianAdjacent (ltOf cf) d a s).1) ∧ Cnt1 enc w0 blk off d c (medianAdjacent (ltOf cf) d a s).2 w' := Any.medianAdjacentCmpFunc Ybad.laysSlF49_f71 enc cf g cb blk off cap a c s d0 d w0 W eg hcmp R hs C ha1 ha2 hsz hss
def Ybad.laysSlF23_f46_ren : Go.Shelf.Ren := ⟨fun | 23 => 46 | 49 => 71 | 50 => 72 | 57 => 79 | n => n, fun | 24 => 24 | 22 => 85 | 3 => 3 | 25 => 104 | 45 => 125 | 0 => 0 | 4 => 4 | 70 => 152 | 77 => 158 | n => n, fun | n => n⟩
theorem Ybad.laysSlF23_f46 : Go.Proofs.SlLaysF.n23 Ybad.prog Ybad.laysSlF23_f46_ren := {
  mixed := by kernel_rfl
  f23 := ⟨Ybad.f46.name, by decide, Ybad.func46.trans (congrArg some (by kernel_rfl))⟩
  f49 := ⟨Ybad.f71.name, by decide, Ybad.func71.trans (congrArg some (by kernel_rfl))⟩
  f50 := ⟨Ybad.f72.name, by decide, Ybad.func72.trans (congrArg some (by kernel_rfl))⟩
  f57 := ⟨Ybad.f79.name, by decide, Ybad.func79.trans (congrArg some (by kernel_rfl))⟩
  t0 := Ybad.underlying0
  a0 := Ybad.isAgg0
  z0 := Ybad.sizeOf0
  v0 := Ybad.zeroValue0
  t3 := Ybad.underlying3
  a3 := Ybad.isAgg3
  z3 := Ybad.sizeOf3
  v3 := Ybad.zeroValue3
  t4 := Ybad.underlying4
  a4 := Ybad.isAgg4
  z4 := Ybad.sizeOf4
  v4 := Ybad.zeroValue4
  t22 := Ybad.underlying85
  a22 := Ybad.isAgg85
  z22 := Ybad.sizeOf85
  v22 := Ybad.zeroValue85
  a24 := Ybad.isAgg24
  z24 := Ybad.sizeOf24
  t25 := Ybad.underlying104
  a25 := Ybad.isAgg104
  z25 := Ybad.sizeOf104
  v25 := Ybad.zeroValue104
  t45 := Ybad.underlying125
  a45 := Ybad.isAgg125
  z45 := Ybad.sizeOf125
  v45 := Ybad.zeroValue125
  t70 := Ybad.underlying152
  a70 := Ybad.isAgg152
  z70 := Ybad.sizeOf152
  v70 := Ybad.zeroValue152
  t77 := Ybad.underlying158
  a77 := Ybad.isAgg158
  z77 := Ybad.sizeOf158
  v77 := Ybad.zeroValue158 }
open Go.RowKit Go.Lib Go.Sort in
/-- slices.choosePivotCmpFunc at elements of one cell: THE LIBRARY's OWN TEXT COMPUTES 'Sort.choosePivot (ltOf cf) d a b'; the row is not turned. (After Derived/Shelf/SlSortFuncK/PivotK.lean, row for row; the counter's world by 'CntK'.) (LAID AT THE INSTANCE 'slices.choosePivotCmpFunc[[]int]': no walk: one application.) -/
theorem Ybad.choosePivotCmpFunc {α : Type} [Inhabited α] (enc : α → Value) (cf : α → α → Int) (g : Nat) (cb : Array Value) (blk off cap a b : Nat) (d0 d : Array α) (w0 W : World) (eg : ∀ args w, (callFunc g args).run Ybad.prog w = .ok (.enter g args) w) (hcmp : CmpLays1 Ybad.prog g cb enc cf blk off d0.size w0) (R : Row1 enc w0 blk off d0) (hs : d0.size = d.size) (S : SW enc w0 blk off d W) (hab : a < b) (hb : b ≤ d.size) (hsz : d.size < 4611686018427387904) :
    Calls Ybad.prog 46 #[.slice (some ⟨blk, off, none⟩) d.size cap, .int .i64 a, .int .i64 b, .func (.func g) #[] cb] W fun e w' =>
      e = .returned (.tuple #[.int .i64 (choosePivot (ltOf cf) d a b).1, .int .i64 (hintCode (choosePivot (ltOf cf) d a b).2)]) ∧ SW enc w0 blk off d w' := Any.choosePivotCmpFunc Ybad.laysSlF23_f46 enc cf g cb blk off cap a b d0 d w0 W eg hcmp R hs S hab hb hsz
def Ybad.laysSlF24_f47_ren : Go.Shelf.Ren := ⟨fun | 24 => 47 | n => n, fun | 24 => 24 | 22 => 85 | 3 => 3 | 25 => 104 | 4 => 4 | 0 => 0 | n => n, fun | n => n⟩
theorem Ybad.laysSlF24_f47 : Go.Proofs.SlLaysF.n24 Ybad.prog Ybad.laysSlF24_f47_ren := {
  mixed := by kernel_rfl
  f24 := ⟨Ybad.f47.name, by decide, Ybad.func47.trans (congrArg some (by kernel_rfl))⟩
  t0 := Ybad.underlying0
  a0 := Ybad.isAgg0
  z0 := Ybad.sizeOf0
  v0 := Ybad.zeroValue0
  t3 := Ybad.underlying3
  a3 := Ybad.isAgg3
  z3 := Ybad.sizeOf3
  v3 := Ybad.zeroValue3
  t4 := Ybad.underlying4
  a4 := Ybad.isAgg4
  z4 := Ybad.sizeOf4
  v4 := Ybad.zeroValue4
  t22 := Ybad.underlying85
  a22 := Ybad.isAgg85
  z22 := Ybad.sizeOf85
  v22 := Ybad.zeroValue85
  a24 := Ybad.isAgg24
  z24 := Ybad.sizeOf24
  t25 := Ybad.underlying104
  a25 := Ybad.isAgg104
  z25 := Ybad.sizeOf104
  v25 := Ybad.zeroValue104 }
open Go.RowKit Go.Lib Go.Sort in
/-- slices.reverseRangeCmpFunc at elements of one cell: it exchanges and does not compare. (LAID AT THE INSTANCE 'slices.reverseRangeCmpFunc[[]int]': no walk: one application.) -/
theorem Ybad.reverseRangeCmpFunc {α : Type} [Inhabited α] (enc : α → Value) (g : Nat) (cb : Array Value) (blk off cap a b : Nat) (d0 d : Array α) (w0 w : World) (R : Row1 enc w0 blk off d0) (hs : d0.size = d.size) (S : SW enc w0 blk off d w) (hab : a ≤ b) (hb : b ≤ d.size) (hsz : d.size < 4611686018427387904) :
    Calls Ybad.prog 47 #[.slice (some ⟨blk, off, none⟩) d.size cap, .int .i64 a, .int .i64 b, .func (.func g) #[] cb] w fun e w' => e = .returned (.tuple #[]) ∧ SW enc w0 blk off (reverseRange d a b) w' := Any.reverseRangeCmpFunc Ybad.laysSlF24_f47 enc g cb blk off cap a b d0 d w0 w R hs S hab hb hsz
def Ybad.laysSlF25_f48_ren : Go.Shelf.Ren := ⟨fun | 25 => 48 | n => n, fun | 24 => 24 | 22 => 85 | 3 => 3 | 25 => 104 | 4 => 4 | 0 => 0 | n => n, fun | n => n⟩
theorem Ybad.laysSlF25_f48 : Go.Proofs.SlLaysF.n25 Ybad.prog Ybad.laysSlF25_f48_ren := {
  mixed := by kernel_rfl
  f25 := ⟨Ybad.f48.name, by decide, Ybad.func48.trans (congrArg some (by kernel_rfl))⟩
  t0 := Ybad.underlying0
  a0 := Ybad.isAgg0
  z0 := Ybad.sizeOf0
  v0 := Ybad.zeroValue0
  t3 := Ybad.underlying3
  a3 := Ybad.isAgg3
  z3 := Ybad.sizeOf3
  v3 := Ybad.zeroValue3
  t4 := Ybad.underlying4
  a4 := Ybad.isAgg4
  z4 := Ybad.sizeOf4
  v4 := Ybad.zeroValue4
  t22 := Ybad.underlying85
  a22 := Ybad.isAgg85
  z22 := Ybad.sizeOf85
  v22 := Ybad.zeroValue85
  a24 := Ybad.isAgg24
  z24 := Ybad.sizeOf24
  t25 := Ybad.underlying104
  a25 := Ybad.isAgg104
  z25 := Ybad.sizeOf104
  v25 := Ybad.zeroValue104 }
open Go.RowKit Go.Lib Go.Sort in
/-- slices.partialInsertionSortCmpFunc at elements of one cell. (LAID AT THE INSTANCE 'slices.partialInsertionSortCmpFunc[[]int]': no walk: one application.) -/
theorem Ybad.partialInsertionSortCmpFunc {α : Type} [Inhabited α] (enc : α → Value) (cf : α → α → Int) (g : Nat) (cb : Array Value) (blk off cap a b : Nat) (d0 d : Array α) (w0 w : World) (eg : ∀ args w, (callFunc g args).run Ybad.prog w = .ok (.enter g args) w) (hcmp : CmpLays1 Ybad.prog g cb enc cf blk off d0.size w0) (R : Row1 enc w0 blk off d0) (hs : d0.size = d.size) (S : SW enc w0 blk off d w) (hab : a < b) (hb : b ≤ d.size) (hsz : d.size < 4611686018427387904) :
    Calls Ybad.prog 48 #[.slice (some ⟨blk, off, none⟩) d.size cap, .int .i64 a, .int .i64 b, .func (.func g) #[] cb] w fun e w' =>
      e = .returned (.bool (Sort.partialInsertionSort (ltOf cf) d a b).2) ∧ SW enc w0 blk off (Sort.partialInsertionSort (ltOf cf) d a b).1 w' := Any.partialInsertionSortCmpFunc Ybad.laysSlF25_f48 enc cf g cb blk off cap a b d0 d w0 w eg hcmp R hs S hab hb hsz
def Ybad.laysSlF26_f49_ren : Go.Shelf.Ren := ⟨fun | 26 => 49 | n => n, fun | 24 => 24 | 22 => 85 | 3 => 3 | 25 => 104 | 0 => 0 | 4 => 4 | n => n, fun | n => n⟩
theorem Ybad.laysSlF26_f49 : Go.Proofs.SlLaysF.n26 Ybad.prog Ybad.laysSlF26_f49_ren := {
  mixed := by kernel_rfl
  f26 := ⟨Ybad.f49.name, by decide, Ybad.func49.trans (congrArg some (by kernel_rfl))⟩
  t0 := Ybad.underlying0
  a0 := Ybad.isAgg0
  z0 := Ybad.sizeOf0
  v0 := Ybad.zeroValue0
  t3 := Ybad.underlying3
  a3 := Ybad.isAgg3
  z3 := Ybad.sizeOf3
  v3 := Ybad.zeroValue3
  t4 := Ybad.underlying4
  a4 := Ybad.isAgg4
  z4 := Ybad.sizeOf4
  v4 := Ybad.zeroValue4
  t22 := Ybad.underlying85
  a22 := Ybad.isAgg85
  z22 := Ybad.sizeOf85
  v22 := Ybad.zeroValue85
  a24 := Ybad.isAgg24
  z24 := Ybad.sizeOf24
  t25 := Ybad.underlying104
  a25 := Ybad.isAgg104
  z25 := Ybad.sizeOf104
  v25 := Ybad.zeroValue104 }
open Go.RowKit Go.Lib Go.Sort in
/-- slices.partitionEqualCmpFunc at elements of one cell. (After Derived/Shelf/SlSortFuncK/PartitionK.lean, row for row.) (LAID AT THE INSTANCE 'slices.partitionEqualCmpFunc[[]int]': no walk: one application.) -/
theorem Ybad.partitionEqualCmpFunc {α : Type} [Inhabited α] (enc : α → Value) (cf : α → α → Int) (g : Nat) (cb : Array Value) (blk off cap a b pivot : Nat) (d0 d : Array α) (w0 w : World) (eg : ∀ args w, (callFunc g args).run Ybad.prog w = .ok (.enter g args) w) (hcmp : CmpLays1 Ybad.prog g cb enc cf blk off d0.size w0) (R : Row1 enc w0 blk off d0) (hs : d0.size = d.size) (S : SW enc w0 blk off d w) (hap : a ≤ pivot) (hpb : pivot < b) (hb : b ≤ d.size) (hsz : d.size < 4611686018427387904) :
    Calls Ybad.prog 49 #[.slice (some ⟨blk, off, none⟩) d.size cap, .int .i64 a, .int .i64 b, .int .i64 pivot, .func (.func g) #[] cb] w fun e w' =>
      e = .returned (.int .i64 (Sort.partitionEqual (ltOf cf) d a b pivot).1) ∧ SW enc w0 blk off (Sort.partitionEqual (ltOf cf) d a b pivot).2 w' := Any.partitionEqualCmpFunc Ybad.laysSlF26_f49 enc cf g cb blk off cap a b pivot d0 d w0 w eg hcmp R hs S hap hpb hb hsz
def Ybad.laysSlF27_f50_ren : Go.Shelf.Ren := ⟨fun | 27 => 50 | n => n, fun | 24 => 24 | 22 => 85 | 3 => 3 | 25 => 104 | 4 => 4 | 0 => 0 | n => n, fun | n => n⟩
theorem Ybad.laysSlF27_f50 : Go.Proofs.SlLaysF.n27 Ybad.prog Ybad.laysSlF27_f50_ren := {
  mixed := by kernel_rfl
  f27 := ⟨Ybad.f50.name, by decide, Ybad.func50.trans (congrArg some (by kernel_rfl))⟩
  t0 := Ybad.underlying0
  a0 := Ybad.isAgg0
  z0 := Ybad.sizeOf0
  v0 := Ybad.zeroValue0
  t3 := Ybad.underlying3
  a3 := Ybad.isAgg3
  z3 := Ybad.sizeOf3
  v3 := Ybad.zeroValue3
  t4 := Ybad.underlying4
  a4 := Ybad.isAgg4
  z4 := Ybad.sizeOf4
  v4 := Ybad.zeroValue4
  t22 := Ybad.underlying85
  a22 := Ybad.isAgg85
  z22 := Ybad.sizeOf85
  v22 := Ybad.zeroValue85
  a24 := Ybad.isAgg24
  z24 := Ybad.sizeOf24
  t25 := Ybad.underlying104
  a25 := Ybad.isAgg104
  z25 := Ybad.sizeOf104
  v25 := Ybad.zeroValue104 }
open Go.RowKit Go.Lib Go.Sort in
/-- slices.partitionCmpFunc at elements of one cell. (After Derived/Shelf/SlSortFuncK/PartitionK.lean, row for row.) (LAID AT THE INSTANCE 'slices.partitionCmpFunc[[]int]': no walk: one application.) -/
theorem Ybad.partitionCmpFunc {α : Type} [Inhabited α] (enc : α → Value) (cf : α → α → Int) (g : Nat) (cb : Array Value) (blk off cap a b pivot : Nat) (d0 d : Array α) (w0 w : World) (eg : ∀ args w, (callFunc g args).run Ybad.prog w = .ok (.enter g args) w) (hcmp : CmpLays1 Ybad.prog g cb enc cf blk off d0.size w0) (R : Row1 enc w0 blk off d0) (hs : d0.size = d.size) (S : SW enc w0 blk off d w) (hap : a ≤ pivot) (hpb : pivot < b) (hb : b ≤ d.size) (hsz : d.size < 4611686018427387904) :
    Calls Ybad.prog 50 #[.slice (some ⟨blk, off, none⟩) d.size cap, .int .i64 a, .int .i64 b, .int .i64 pivot, .func (.func g) #[] cb] w fun e w' =>
      e = .returned (.tuple #[.int .i64 (Sort.partition (ltOf cf) d a b pivot).1, .bool (Sort.partition (ltOf cf) d a b pivot).2.1]) ∧ SW enc w0 blk off (Sort.partition (ltOf cf) d a b pivot).2.2 w' := Any.partitionCmpFunc Ybad.laysSlF27_f50 enc cf g cb blk off cap a b pivot d0 d w0 w eg hcmp R hs S hap hpb hb hsz
def Ybad.laysSlF14_f35_ren : Go.Shelf.Ren := ⟨fun | 14 => 35 | 20 => 43 | 21 => 44 | 22 => 45 | 23 => 46 | 24 => 47 | 25 => 48 | 26 => 49 | 27 => 50 | 46 => 68 | 47 => 69 | 48 => 70 | 49 => 71 | 50 => 72 | 15 => 36 | 57 => 79 | 28 => 51 | 29 => 52 | n => n, fun | 24 => 24 | 22 => 85 | 3 => 3 | 25 => 104 | 4 => 4 | 0 => 0 | 46 => 126 | 45 => 125 | 50 => 130 | 66 => 148 | 39 => 39 | 55 => 40 | 70 => 152 | 76 => 157 | 77 => 158 | 53 => 133 | 5 => 5 | 9 => 9 | n => n, fun | n => n⟩
theorem Ybad.laysSlF14_f35 : Go.Proofs.SlLaysF.n14 Ybad.prog Ybad.laysSlF14_f35_ren := {
  mixed := by kernel_rfl
  f14 := ⟨Ybad.f35.name, by decide, Ybad.func35.trans (congrArg some (by kernel_rfl))⟩
  f15 := Ybad.func36.trans (congrArg some (by kernel_rfl))
  f20 := ⟨Ybad.f43.name, by decide, Ybad.func43.trans (congrArg some (by kernel_rfl))⟩
  f21 := ⟨Ybad.f44.name, by decide, Ybad.func44.trans (congrArg some (by kernel_rfl))⟩
  f22 := ⟨Ybad.f45.name, by decide, Ybad.func45.trans (congrArg some (by kernel_rfl))⟩
  f23 := ⟨Ybad.f46.name, by decide, Ybad.func46.trans (congrArg some (by kernel_rfl))⟩
  f24 := ⟨Ybad.f47.name, by decide, Ybad.func47.trans (congrArg some (by kernel_rfl))⟩
  f25 := ⟨Ybad.f48.name, by decide, Ybad.func48.trans (congrArg some (by kernel_rfl))⟩
  f26 := ⟨Ybad.f49.name, by decide, Ybad.func49.trans (congrArg some (by kernel_rfl))⟩
  f27 := ⟨Ybad.f50.name, by decide, Ybad.func50.trans (congrArg some (by kernel_rfl))⟩
  f28 := Ybad.func51.trans (congrArg some (by kernel_rfl))
  f29 := Ybad.func52.trans (congrArg some (by kernel_rfl))
  f46 := ⟨Ybad.f68.name, by decide, Ybad.func68.trans (congrArg some (by kernel_rfl))⟩
  f47 := Ybad.func69.trans (congrArg some (by kernel_rfl))
  f48 := Ybad.func70.trans (congrArg some (by kernel_rfl))
  f49 := ⟨Ybad.f71.name, by decide, Ybad.func71.trans (congrArg some (by kernel_rfl))⟩
  f50 := ⟨Ybad.f72.name, by decide, Ybad.func72.trans (congrArg some (by kernel_rfl))⟩
  f57 := ⟨Ybad.f79.name, by decide, Ybad.func79.trans (congrArg some (by kernel_rfl))⟩
  t0 := Ybad.underlying0
  a0 := Ybad.isAgg0
  z0 := Ybad.sizeOf0
  v0 := Ybad.zeroValue0
  t3 := Ybad.underlying3
  a3 := Ybad.isAgg3
  z3 := Ybad.sizeOf3
  v3 := Ybad.zeroValue3
  t4 := Ybad.underlying4
  a4 := Ybad.isAgg4
  z4 := Ybad.sizeOf4
  v4 := Ybad.zeroValue4
  t5 := Ybad.underlying5
  a5 := Ybad.isAgg5
  z5 := Ybad.sizeOf5
  v5 := Ybad.zeroValue5
  t9 := Ybad.underlying9
  a9 := Ybad.isAgg9
  z9 := Ybad.sizeOf9
  v9 := Ybad.zeroValue9
  t22 := Ybad.underlying85
  a22 := Ybad.isAgg85
  z22 := Ybad.sizeOf85
  v22 := Ybad.zeroValue85
  a24 := Ybad.isAgg24
  z24 := Ybad.sizeOf24
  t25 := Ybad.underlying104
  a25 := Ybad.isAgg104
  z25 := Ybad.sizeOf104
  v25 := Ybad.zeroValue104
  t39 := Ybad.underlying39
  a39 := Ybad.isAgg39
  z39 := Ybad.sizeOf39
  v39 := Ybad.zeroValue39
  t45 := Ybad.underlying125
  a45 := Ybad.isAgg125
  z45 := Ybad.sizeOf125
  v45 := Ybad.zeroValue125
  t46 := Ybad.underlying126
  a46 := Ybad.isAgg126
  z46 := Ybad.sizeOf126
  v46 := Ybad.zeroValue126
  t50 := Ybad.underlying130
  a50 := Ybad.isAgg130
  z50 := Ybad.sizeOf130
  v50 := Ybad.zeroValue130
  t53 := Ybad.underlying133
  a53 := Ybad.isAgg133
  z53 := Ybad.sizeOf133
  v53 := Ybad.zeroValue133
  t55 := Ybad.underlying40
  a55 := Ybad.isAgg40
  z55 := Ybad.sizeOf40
  v55 := Ybad.zeroValue40
  t66 := Ybad.underlying148
  a66 := Ybad.isAgg148
  z66 := Ybad.sizeOf148
  v66 := Ybad.zeroValue148
  t70 := Ybad.underlying152
  a70 := Ybad.isAgg152
  z70 := Ybad.sizeOf152
  v70 := Ybad.zeroValue152
  t76 := Ybad.underlying157
  a76 := Ybad.isAgg157
  z76 := Ybad.sizeOf157
  v76 := Ybad.zeroValue157
  t77 := Ybad.underlying158
  a77 := Ybad.isAgg158
  z77 := Ybad.sizeOf158
  v77 := Ybad.zeroValue158 }
open Go.RowKit Go.Lib Go.Sort in
/-- slices.pdqsortCmpFunc at elements of one cell, WHOLE. (After Derived/Shelf/SlSortFuncK/PdqK.lean, row for row: the slots and the regions' numbers are this body's.) (LAID AT THE INSTANCE 'slices.pdqsortCmpFunc[[]int]': no walk: one application.) -/
theorem Ybad.pdqsortCmpFunc_all {α : Type} [Inhabited α] (enc : α → Value) (cf : α → α → Int) (g : Nat) (cb : Array Value) (hO : SWO (ltOf cf)) (blk off cap : Nat) (d0 : Array α) (w0 : World) (eg : ∀ args w, (callFunc g args).run Ybad.prog w = .ok (.enter g args) w) (hcmp : CmpLays1 Ybad.prog g cb enc cf blk off d0.size w0) (R : Row1 enc w0 blk off d0) :
    ∀ (N a b limit : Nat) (d : Array α) (w : World), b - a < N → d0.size = d.size → SW enc w0 blk off d w → a ≤ b → b ≤ d.size → d.size < 4611686018427387904 → limit < 4611686018427387904 → Below (ltOf cf) a b d →
    Calls Ybad.prog 35 #[.slice (some ⟨blk, off, none⟩) d.size cap, .int .i64 a, .int .i64 b, .int .i64 limit, .func (.func g) #[] cb] w fun e w' => e = .returned (.tuple #[]) ∧ SW enc w0 blk off (pdq (ltOf cf) d a b limit true true) w' := Any.pdqsortCmpFunc_all Ybad.laysSlF14_f35 enc cf g cb hO blk off cap d0 w0 eg hcmp R
def Ybad.laysSlF6_f23_ren : Go.Shelf.Ren := ⟨fun | 6 => 23 | 15 => 36 | 14 => 35 | 28 => 51 | 29 => 52 | 20 => 43 | 21 => 44 | 22 => 45 | 23 => 46 | 24 => 47 | 25 => 48 | 26 => 49 | 27 => 50 | 46 => 68 | 47 => 69 | 48 => 70 | 49 => 71 | 50 => 72 | 57 => 79 | n => n, fun | 22 => 85 | 24 => 24 | 25 => 104 | 3 => 3 | 39 => 39 | 0 => 0 | 53 => 133 | 55 => 40 | 4 => 4 | 46 => 126 | 45 => 125 | 50 => 130 | 5 => 5 | 9 => 9 | 66 => 148 | 70 => 152 | 76 => 157 | 77 => 158 | n => n, fun | n => n⟩
theorem Ybad.laysSlF6_f23 : Go.Proofs.SlLaysF.n6 Ybad.prog Ybad.laysSlF6_f23_ren := {
  mixed := by kernel_rfl
  f6 := ⟨Ybad.f23.name, by decide, Ybad.func23.trans (congrArg some (by kernel_rfl))⟩
  f14 := ⟨Ybad.f35.name, by decide, Ybad.func35.trans (congrArg some (by kernel_rfl))⟩
  f15 := Ybad.func36.trans (congrArg some (by kernel_rfl))
  f20 := ⟨Ybad.f43.name, by decide, Ybad.func43.trans (congrArg some (by kernel_rfl))⟩
  f21 := ⟨Ybad.f44.name, by decide, Ybad.func44.trans (congrArg some (by kernel_rfl))⟩
  f22 := ⟨Ybad.f45.name, by decide, Ybad.func45.trans (congrArg some (by kernel_rfl))⟩
  f23 := ⟨Ybad.f46.name, by decide, Ybad.func46.trans (congrArg some (by kernel_rfl))⟩
  f24 := ⟨Ybad.f47.name, by decide, Ybad.func47.trans (congrArg some (by kernel_rfl))⟩
  f25 := ⟨Ybad.f48.name, by decide, Ybad.func48.trans (congrArg some (by kernel_rfl))⟩
  f26 := ⟨Ybad.f49.name, by decide, Ybad.func49.trans (congrArg some (by kernel_rfl))⟩
  f27 := ⟨Ybad.f50.name, by decide, Ybad.func50.trans (congrArg some (by kernel_rfl))⟩
  f28 := Ybad.func51.trans (congrArg some (by kernel_rfl))
  f29 := Ybad.func52.trans (congrArg some (by kernel_rfl))
  f46 := ⟨Ybad.f68.name, by decide, Ybad.func68.trans (congrArg some (by kernel_rfl))⟩
  f47 := Ybad.func69.trans (congrArg some (by kernel_rfl))
  f48 := Ybad.func70.trans (congrArg some (by kernel_rfl))
  f49 := ⟨Ybad.f71.name, by decide, Ybad.func71.trans (congrArg some (by kernel_rfl))⟩
  f50 := ⟨Ybad.f72.name, by decide, Ybad.func72.trans (congrArg some (by kernel_rfl))⟩
  f57 := ⟨Ybad.f79.name, by decide, Ybad.func79.trans (congrArg some (by kernel_rfl))⟩
  t0 := Ybad.underlying0
  a0 := Ybad.isAgg0
  z0 := Ybad.sizeOf0
  v0 := Ybad.zeroValue0
  t3 := Ybad.underlying3
  a3 := Ybad.isAgg3
  z3 := Ybad.sizeOf3
  v3 := Ybad.zeroValue3
  t4 := Ybad.underlying4
  a4 := Ybad.isAgg4
  z4 := Ybad.sizeOf4
  v4 := Ybad.zeroValue4
  t5 := Ybad.underlying5
  a5 := Ybad.isAgg5
  z5 := Ybad.sizeOf5
  v5 := Ybad.zeroValue5
  t9 := Ybad.underlying9
  a9 := Ybad.isAgg9
  z9 := Ybad.sizeOf9
  v9 := Ybad.zeroValue9
  t22 := Ybad.underlying85
  a22 := Ybad.isAgg85
  z22 := Ybad.sizeOf85
  v22 := Ybad.zeroValue85
  a24 := Ybad.isAgg24
  z24 := Ybad.sizeOf24
  t25 := Ybad.underlying104
  a25 := Ybad.isAgg104
  z25 := Ybad.sizeOf104
  v25 := Ybad.zeroValue104
  t39 := Ybad.underlying39
  a39 := Ybad.isAgg39
  z39 := Ybad.sizeOf39
  v39 := Ybad.zeroValue39
  t45 := Ybad.underlying125
  a45 := Ybad.isAgg125
  z45 := Ybad.sizeOf125
  v45 := Ybad.zeroValue125
  t46 := Ybad.underlying126
  a46 := Ybad.isAgg126
  z46 := Ybad.sizeOf126
  v46 := Ybad.zeroValue126
  t50 := Ybad.underlying130
  a50 := Ybad.isAgg130
  z50 := Ybad.sizeOf130
  v50 := Ybad.zeroValue130
  t53 := Ybad.underlying133
  a53 := Ybad.isAgg133
  z53 := Ybad.sizeOf133
  v53 := Ybad.zeroValue133
  t55 := Ybad.underlying40
  a55 := Ybad.isAgg40
  z55 := Ybad.sizeOf40
  v55 := Ybad.zeroValue40
  t66 := Ybad.underlying148
  a66 := Ybad.isAgg148
  z66 := Ybad.sizeOf148
  v66 := Ybad.zeroValue148
  t70 := Ybad.underlying152
  a70 := Ybad.isAgg152
  z70 := Ybad.sizeOf152
  v70 := Ybad.zeroValue152
  t76 := Ybad.underlying157
  a76 := Ybad.isAgg157
  z76 := Ybad.sizeOf157
  v76 := Ybad.zeroValue157
  t77 := Ybad.underlying158
  a77 := Ybad.isAgg158
  z77 := Ybad.sizeOf158
  v77 := Ybad.zeroValue158 }
open Go.RowKit Go.Lib Go.Sort in
/-- **slices.SortFunc: WHAT THE ROW HOLDS, TO THE ELEMENT.** (LAID AT THE INSTANCE 'slices.SortFunc[[][]int,[]int]': no walk: one application.) -/
theorem Ybad.slices_SortFunc_eq {α : Type} [Inhabited α] (enc : α → Value) (h1 : OneCell enc) (cf : α → α → Int) (hO : SWO (ltOf cf)) (g : Nat) (cb : Array Value) (blk off cap : Nat) (d : Array α) (w : World) (eg : ∀ args w, (callFunc g args).run Ybad.prog w = .ok (.enter g args) w) (hcmp : CmpLays1 Ybad.prog g cb enc cf blk off d.size w) (hH : Holds enc w blk off d) (hblk : blk < w.heap.size) (hsz : d.size < 4611686018427387904) :
    Calls Ybad.prog 23 #[.slice (some ⟨blk, off, none⟩) d.size cap, .func (.func g) #[] cb] w fun e w' =>
      e = .returned (.tuple #[]) ∧ ∃ n os, w' = sortWorld enc w blk off n (pdq (ltOf cf) d 0 d.size (Lib.bitLen d.size) true true) os := Any.slices_SortFunc_eq Ybad.laysSlF6_f23 enc h1 cf hO g cb blk off cap d w eg hcmp hH hblk hsz
open Go.RowKit Go.Lib Go.Sort in
/-- **slices.SortFunc, IN THE DOCUMENTATION's OWN TERMS: A PERMUTATION OF WHAT THE ROW HELD, SORTED BY 'cmp(a, b) < 0'.** Which of two equals comes first is left open ("The sort is not guaranteed to be stable"). (LAID AT THE INSTANCE 'slices.SortFunc[[][]int,[]int]': no walk: one application.) -/
theorem Ybad.slices_SortFunc {α : Type} [Inhabited α] (enc : α → Value) (h1 : OneCell enc) (cf : α → α → Int) (hO : SWO (ltOf cf)) (g : Nat) (cb : Array Value) (blk off cap : Nat) (d : Array α) (w : World) (eg : ∀ args w, (callFunc g args).run Ybad.prog w = .ok (.enter g args) w) (hcmp : CmpLays1 Ybad.prog g cb enc cf blk off d.size w) (hH : Holds enc w blk off d) (hblk : blk < w.heap.size) (hsz : d.size < 4611686018427387904) :
    Calls Ybad.prog 23 #[.slice (some ⟨blk, off, none⟩) d.size cap, .func (.func g) #[] cb] w fun e w' =>
      e = .returned (.tuple #[]) ∧ ∃ d' n os, PermIn 0 d.size d d' ∧ SortedIn (ltOf cf) 0 d.size d' ∧ w' = sortWorld enc w blk off n d' os := Any.slices_SortFunc Ybad.laysSlF6_f23 enc h1 cf hO g cb blk off cap d w eg hcmp hH hblk hsz
end Go.Proofs
