/-
  DERIVED: THE SHELF's CONTRACTS AT THIS DUMP, IN PLAIN WORDS (tools/lay-plain.mjs out of 'TrydShelf.lean', which tools/lay-shelf.mjs wrote): THE SAME DECLARATIONS UNDER THE SAME NAMES: 'import', 'namespace', 'open', 'def', 'theorem' AND NOTHING ELSE: no command of the shelf's: FOR A HAND-IN. Each laying: the table of numbers ('.._ren') and one theorem, a field a fact of the dump's own or the kernel's comparison; each contract: ONE APPLICATION.
-/
import Derived.Shelf.Strings.Builder1
import Derived.Shelf.Strings.Builder2
import Derived.Shelf.Strings.OnBuilder
import Derived.Shelf.Bytes.TrimSpace
import Derived.Test.YtdobblddnfalcaaDoorProg
namespace Go.Proofs
open Go.Shelf
def Tryd.lays156_ren : Go.Shelf.Ren := ⟨fun | 156 => 32 | 165 => 47 | 166 => 48 | 169 => 49 | 240 => 59 | 241 => 60 | 276 => 68 | 277 => 69 | n => n, fun | 31 => 28 | 9 => 9 | 3 => 3 | 4 => 4 | 0 => 0 | 20 => 20 | 72 => 94 | 76 => 82 | 70 => 92 | 37 => 35 | 75 => 48 | 127 => 105 | 164 => 115 | 5 => 5 | 80 => 44 | n => n, fun | n => n⟩
theorem Tryd.lays156 : Go.Proofs.Lays.n156 Tryd.prog Tryd.lays156_ren := {
  mixed := by kernel_rfl
  f156 := Tryd.func32.trans (congrArg some (by kernel_rfl))
  f165 := Tryd.func47.trans (congrArg some (by kernel_rfl))
  f166 := Tryd.func48.trans (congrArg some (by kernel_rfl))
  f169 := Tryd.func49.trans (congrArg some (by kernel_rfl))
  f240 := Tryd.func59.trans (congrArg some (by kernel_rfl))
  f241 := Tryd.func60.trans (congrArg some (by kernel_rfl))
  f276 := Tryd.func68.trans (congrArg some (by kernel_rfl))
  f277 := Tryd.func69.trans (congrArg some (by kernel_rfl))
  t0 := Tryd.underlying0
  a0 := Tryd.isAgg0
  z0 := Tryd.sizeOf0
  v0 := Tryd.zeroValue0
  t3 := Tryd.underlying3
  a3 := Tryd.isAgg3
  z3 := Tryd.sizeOf3
  v3 := Tryd.zeroValue3
  t4 := Tryd.underlying4
  a4 := Tryd.isAgg4
  z4 := Tryd.sizeOf4
  v4 := Tryd.zeroValue4
  t9 := Tryd.underlying9
  a9 := Tryd.isAgg9
  z9 := Tryd.sizeOf9
  v9 := Tryd.zeroValue9
  t20 := Tryd.underlying20
  a20 := Tryd.isAgg20
  z20 := Tryd.sizeOf20
  v20 := Tryd.zeroValue20
  t31 := Tryd.underlying28
  a31 := Tryd.isAgg28
  z31 := Tryd.sizeOf28
  v31 := Tryd.zeroValue28
  t37 := Tryd.underlying35
  a37 := Tryd.isAgg35
  z37 := Tryd.sizeOf35
  v37 := Tryd.zeroValue35
  t70 := Tryd.underlying92
  a70 := Tryd.isAgg92
  z70 := Tryd.sizeOf92
  v70 := Tryd.zeroValue92
  t72 := Tryd.underlying94
  a72 := Tryd.isAgg94
  z72 := Tryd.sizeOf94
  v72 := Tryd.zeroValue94
  t75 := Tryd.underlying48
  a75 := Tryd.isAgg48
  z75 := Tryd.sizeOf48
  v75 := Tryd.zeroValue48
  t76 := Tryd.underlying82
  a76 := Tryd.isAgg82
  z76 := Tryd.sizeOf82
  v76 := Tryd.zeroValue82
  t127 := Tryd.underlying105
  a127 := Tryd.isAgg105
  z127 := Tryd.sizeOf105
  v127 := Tryd.zeroValue105
  t164 := Tryd.underlying115
  a164 := Tryd.isAgg115
  z164 := Tryd.sizeOf115
  v164 := Tryd.zeroValue115 }
theorem Tryd.Builder_Extra_156 : Builder.Extra Tryd.prog Tryd.lays156_ren := {
  sizeBuilder := by kernel_rfl
  liesBuilder := by kernel_rfl
  t5 := Tryd.underlying5
  a5 := Tryd.isAgg5
  z5 := Tryd.sizeOf5
  v5 := Tryd.zeroValue5
  infoByte := by kernel_rfl
  cellsByte := by kernel_rfl
  sizeByte := by kernel_rfl
  neB5 := by decide }
open Go.RowKit in
/-- No element: the empty string; the world is as it was. (Whatever the slice's address and capacity: a nil slice too.) (LAID: no walk: one application.) -/
theorem Tryd.strings_Join_none (a : Option Addr) (c : Nat) (sep : ByteArray) (w : World) :
    Calls Tryd.prog 32 #[.slice a 0 c, .string sep] w fun e w' => e = .returned (.string ⟨#[]⟩) ∧ w' = w := Any.strings_Join_none Tryd.lays156 Tryd.Builder_Extra_156 a c sep w
open Go.RowKit in
/-- strings.Join: "Join concatenates the elements of its first argument to create a single string. The separator string sep is placed between elements in the resulting string.": HOWEVER MANY ELEMENTS. Below the heap's end the world is as it was. (LAID: no walk: one application.) -/
theorem Tryd.strings_Join (bk o c : Nat) (xs : List ByteArray) (sep : ByteArray) (w : World) (hcells : ∀ (j : Nat) x, xs[j]? = some x → w.cell? ⟨bk, o + j, none⟩ = some (.string x)) (hbk : bk < w.heap.size) (hN : xs.length ≤ 140737488355328) (hcap : xs.length ≤ c) (hlen : (Lib.join (xs.map (·.data.toList)) sep.data.toList).length ≤ 140737488355328) :
    Calls Tryd.prog 32 #[.slice (some ⟨bk, o, none⟩) xs.length c, .string sep] w fun e w' => e = .returned (.string ⟨(Lib.join (xs.map (·.data.toList)) sep.data.toList).toArray⟩) ∧ Below w.heap.size w w' := Any.strings_Join Tryd.lays156 Tryd.Builder_Extra_156 bk o c xs sep w hcells hbk hN hcap hlen
def Tryd.laysbs188_ren : Go.Shelf.Ren := ⟨fun | 188 => 33 | 256 => 50 | 199 => 51 | 293 => 62 | 292 => 61 | 261 => 63 | 327 => 72 | 325 => 70 | 326 => 71 | 311 => 73 | 312 => 74 | 341 => 78 | 342 => 79 | 120 => 80 | n => n, fun | 37 => 35 | 3 => 3 | 0 => 0 | 5 => 5 | 4 => 4 | 40 => 98 | 119 => 99 | 21 => 21 | 51 => 106 | 141 => 108 | 105 => 113 | 196 => 123 | 193 => 120 | 198 => 126 | 49 => 124 | 194 => 121 | 201 => 129 | 226 => 131 | 46 => 132 | 227 => 133 | 139 => 137 | 138 => 136 | n => n, fun | 2 => 2 | 6 => 8 | 3 => 12 | 4 => 13 | n => n⟩
theorem Tryd.laysbs188 : Go.Proofs.Lays.nbs188 Tryd.prog Tryd.laysbs188_ren := {
  mixed := by kernel_rfl
  f120 := Tryd.func80.trans (congrArg some (by kernel_rfl))
  f188 := Tryd.func33.trans (congrArg some (by kernel_rfl))
  f199 := Tryd.func51.trans (congrArg some (by kernel_rfl))
  f256 := Tryd.func50.trans (congrArg some (by kernel_rfl))
  f261 := Tryd.func63.trans (congrArg some (by kernel_rfl))
  f292 := Tryd.func61.trans (congrArg some (by kernel_rfl))
  f293 := Tryd.func62.trans (congrArg some (by kernel_rfl))
  f311 := Tryd.func73.trans (congrArg some (by kernel_rfl))
  f312 := Tryd.func74.trans (congrArg some (by kernel_rfl))
  f325 := Tryd.func70.trans (congrArg some (by kernel_rfl))
  f326 := Tryd.func71.trans (congrArg some (by kernel_rfl))
  f327 := Tryd.func72.trans (congrArg some (by kernel_rfl))
  f341 := Tryd.func78.trans (congrArg some (by kernel_rfl))
  f342 := Tryd.func79.trans (congrArg some (by kernel_rfl))
  t0 := Tryd.underlying0
  a0 := Tryd.isAgg0
  z0 := Tryd.sizeOf0
  v0 := Tryd.zeroValue0
  t3 := Tryd.underlying3
  a3 := Tryd.isAgg3
  z3 := Tryd.sizeOf3
  v3 := Tryd.zeroValue3
  t4 := Tryd.underlying4
  a4 := Tryd.isAgg4
  z4 := Tryd.sizeOf4
  v4 := Tryd.zeroValue4
  t5 := Tryd.underlying5
  a5 := Tryd.isAgg5
  z5 := Tryd.sizeOf5
  v5 := Tryd.zeroValue5
  t21 := Tryd.underlying21
  a21 := Tryd.isAgg21
  z21 := Tryd.sizeOf21
  v21 := Tryd.zeroValue21
  t37 := Tryd.underlying35
  a37 := Tryd.isAgg35
  z37 := Tryd.sizeOf35
  v37 := Tryd.zeroValue35
  t40 := Tryd.underlying98
  a40 := Tryd.isAgg98
  z40 := Tryd.sizeOf98
  v40 := Tryd.zeroValue98
  t46 := Tryd.underlying132
  a46 := Tryd.isAgg132
  z46 := Tryd.sizeOf132
  v46 := Tryd.zeroValue132
  t49 := Tryd.underlying124
  a49 := Tryd.isAgg124
  z49 := Tryd.sizeOf124
  v49 := Tryd.zeroValue124
  t51 := Tryd.underlying106
  a51 := Tryd.isAgg106
  z51 := Tryd.sizeOf106
  v51 := Tryd.zeroValue106
  t105 := Tryd.underlying113
  a105 := Tryd.isAgg113
  z105 := Tryd.sizeOf113
  v105 := Tryd.zeroValue113
  t119 := Tryd.underlying99
  a119 := Tryd.isAgg99
  z119 := Tryd.sizeOf99
  t138 := Tryd.underlying136
  a138 := Tryd.isAgg136
  z138 := Tryd.sizeOf136
  v138 := Tryd.zeroValue136
  t139 := Tryd.underlying137
  a139 := Tryd.isAgg137
  z139 := Tryd.sizeOf137
  v139 := Tryd.zeroValue137
  t141 := Tryd.underlying108
  a141 := Tryd.isAgg108
  z141 := Tryd.sizeOf108
  v141 := Tryd.zeroValue108
  t193 := Tryd.underlying120
  a193 := Tryd.isAgg120
  z193 := Tryd.sizeOf120
  v193 := Tryd.zeroValue120
  t194 := Tryd.underlying121
  a194 := Tryd.isAgg121
  z194 := Tryd.sizeOf121
  v194 := Tryd.zeroValue121
  t196 := Tryd.underlying123
  a196 := Tryd.isAgg123
  z196 := Tryd.sizeOf123
  v196 := Tryd.zeroValue123
  t198 := Tryd.underlying126
  a198 := Tryd.isAgg126
  z198 := Tryd.sizeOf126
  v198 := Tryd.zeroValue126
  t201 := Tryd.underlying129
  a201 := Tryd.isAgg129
  z201 := Tryd.sizeOf129
  v201 := Tryd.zeroValue129
  t226 := Tryd.underlying131
  a226 := Tryd.isAgg131
  z226 := Tryd.sizeOf131
  v226 := Tryd.zeroValue131
  t227 := Tryd.underlying133
  a227 := Tryd.isAgg133
  z227 := Tryd.sizeOf133
  v227 := Tryd.zeroValue133
  g2 := by kernel_rfl
  g3 := by kernel_rfl
  g4 := by kernel_rfl
  g6 := by kernel_rfl
  gNamed := by kernel_rfl }
open Go.RowKit in
/-- bytes.TrimSpace: "TrimSpace returns a subslice of s by slicing off all leading and trailing white space, as defined by Unicode.": ON ASCII BYTES ('hascii': each number below 128): IT RETURNS 'Lib.bytesTrimSpace b o c (the bytes of s)': a slice OF THE ARGUMENT's OWN MEMORY, nil where all is white space; the world is as it was. 'htab': the table bytes.asciiSpace holds its numbers (as strings.TrimSpace's contract asks of its own). (LAID: no walk: one application.) -/
theorem Tryd.bytes_TrimSpace (b o n c : Nat) (xs : List Int) (w : World) (hx : xs.length = n) (hnc : n ≤ c) (hbig : n ≤ 9223372036854775807) (hc : ∀ i, i < n → w.cell? ⟨b, o + i, none⟩ = some (.int .u8 (xs.getD i 0))) (hascii : ∀ i, i < n → 0 ≤ xs.getD i 0 ∧ xs.getD i 0 < 128) (htab : Lib.TabIs Tryd.prog w "bytes.asciiSpace" .u8 Lib.asciiSpaceTab) :
    Calls Tryd.prog 33 #[.slice (some ⟨b, o, none⟩) n c] w fun e w' => e = .returned (Lib.bytesTrimSpace b o c (Lib.bytesOf xs)) ∧ w' = w := Any.bytes_TrimSpace Tryd.laysbs188 b o n c xs w hx hnc hbig hc hascii htab
end Go.Proofs
