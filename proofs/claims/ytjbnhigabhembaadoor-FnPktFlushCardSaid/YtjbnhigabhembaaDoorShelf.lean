/-
  DERIVED: THE SHELF's CONTRACTS AT THIS DUMP, IN PLAIN WORDS (tools/lay-plain.mjs out of 'TrydShelf.lean', which tools/lay-shelf.mjs wrote): THE SAME DECLARATIONS UNDER THE SAME NAMES: 'import', 'namespace', 'open', 'def', 'theorem' AND NOTHING ELSE: no command of the shelf's: FOR A HAND-IN. Each laying: the table of numbers ('.._ren') and one theorem, a field a fact of the dump's own or the kernel's comparison; each contract: ONE APPLICATION.
-/
import Derived.Shelf.Strings.TrimSpace
import Derived.Shelf.Small.Utf8
import Derived.Shelf.LaysM
import Derived.Shelf.Bytes.Len
import Derived.Shelf.Bytes.TryGrow
import Derived.Shelf.Bytes.GrowSliceCatch
import Derived.Shelf.Bytes.GrowSlice
import Derived.Shelf.Bytes.GrowRow0
import Derived.Shelf.Bytes.GrowRow
import Derived.Shelf.Bytes.GrowNil
import Derived.Shelf.Bytes.Grow
import Derived.Shelf.Bytes.Write
import Derived.Shelf.Bytes.Bytes
import Derived.Shelf.Bytes.GrowRow0Kept
import Derived.Shelf.Bytes.GrowRowKept
import Derived.Shelf.Bytes.GrowNilKept
import Derived.Shelf.Bytes.GrowKept
import Derived.Shelf.Bytes.ResetKept
import Derived.Shelf.Bytes.WriteKept
import Derived.Shelf.Bytes.BufferK
import Derived.Shelf.Bytes.GrowRow0Own
import Derived.Shelf.Bytes.GrowRowOwn
import Derived.Shelf.Bytes.GrowNilOwn
import Derived.Shelf.Bytes.GrowOwn
import Derived.Shelf.Bytes.WriteAny
import Derived.Shelf.Bytes.LenAt
import Derived.Shelf.Bytes.TryGrowAt
import Derived.Shelf.Bytes.GrowRow0At
import Derived.Shelf.Bytes.GrowRowAt
import Derived.Shelf.GgClosure.StringsIndexFunc
import Derived.Shelf.Bytes.GrowNilAt
import Derived.Shelf.GgClosure.StringsTrimFunc
import Derived.Shelf.Bytes.GrowAt
import Derived.Shelf.GgClosure.StringsRunes
import Derived.Shelf.Bytes.WriteAt
import Derived.Shelf.Unicode.Latin
import Derived.Shelf.Unicode.Decode
import Derived.Shelf.Unicode.DecodeSlow
import Derived.Shelf.Unicode.DecodeAny
import Derived.Shelf.Unicode.Is16White
import Derived.Shelf.Unicode.IsSpaceAny
import Derived.Shelf.Unicode.DecodeLast
import Derived.Shelf.Strings.TrimSpaceAny
import Derived.Shelf.Unicode.Is16WhiteD
import Derived.Shelf.Unicode.IsSpaceAnyD
import Derived.Shelf.Unicode.Is16Any
import Derived.Shelf.Unicode.Is32Any
import Derived.Shelf.Unicode.ExclAny
import Derived.Shelf.Strings.FuncGrows
import Derived.Test.YtjbnhigabhembaaDoorProg
namespace Go.Proofs
open Go.Shelf
def Tryd.lays163_ren : Go.Shelf.Ren := ⟨fun | 163 => 26 | 237 => 32 | 199 => 33 | 238 => 34 | 272 => 36 | 261 => 37 | 273 => 38 | 197 => 39 | 315 => 40 | 311 => 41 | 312 => 42 | 271 => 43 | 260 => 44 | 120 => 45 | n => n, fun | 9 => 9 | 37 => 27 | 3 => 3 | 0 => 0 | 5 => 5 | 4 => 4 | 40 => 71 | 119 => 72 | 21 => 21 | 51 => 75 | 141 => 77 | 105 => 79 | 196 => 84 | 193 => 81 | 198 => 87 | 49 => 85 | 194 => 82 | 201 => 90 | 226 => 92 | 46 => 93 | 227 => 94 | 139 => 98 | 138 => 97 | n => n, fun | 0 => 3 | 6 => 5 | 3 => 6 | 4 => 7 | n => n⟩
theorem Tryd.lays163 : Go.Proofs.Lays.n163 Tryd.prog Tryd.lays163_ren := {
  mixed := by kernel_rfl
  f120 := Tryd.func45.trans (congrArg some (by kernel_rfl))
  f163 := Tryd.func26.trans (congrArg some (by kernel_rfl))
  f197 := Tryd.func39.trans (congrArg some (by kernel_rfl))
  f199 := Tryd.func33.trans (congrArg some (by kernel_rfl))
  f237 := Tryd.func32.trans (congrArg some (by kernel_rfl))
  f238 := Tryd.func34.trans (congrArg some (by kernel_rfl))
  f260 := Tryd.func44.trans (congrArg some (by kernel_rfl))
  f261 := Tryd.func37.trans (congrArg some (by kernel_rfl))
  f271 := Tryd.func43.trans (congrArg some (by kernel_rfl))
  f272 := Tryd.func36.trans (congrArg some (by kernel_rfl))
  f273 := Tryd.func38.trans (congrArg some (by kernel_rfl))
  f311 := Tryd.func41.trans (congrArg some (by kernel_rfl))
  f312 := Tryd.func42.trans (congrArg some (by kernel_rfl))
  f315 := Tryd.func40.trans (congrArg some (by kernel_rfl))
  t0 := Tryd.underlying0
  a0 := Tryd.isAgg0
  z0 := Tryd.sizeOf0
  v0 := Tryd.zeroValue0
  t3 := Tryd.underlying3
  a3 := Tryd.isAgg3
  z3 := Tryd.sizeOf3
  v3 := Tryd.zeroValue3
  t4 := Tryd.underlying4
  a4 := Tryd.isAgg4
  z4 := Tryd.sizeOf4
  v4 := Tryd.zeroValue4
  t5 := Tryd.underlying5
  a5 := Tryd.isAgg5
  z5 := Tryd.sizeOf5
  v5 := Tryd.zeroValue5
  t9 := Tryd.underlying9
  a9 := Tryd.isAgg9
  z9 := Tryd.sizeOf9
  v9 := Tryd.zeroValue9
  t21 := Tryd.underlying21
  a21 := Tryd.isAgg21
  z21 := Tryd.sizeOf21
  v21 := Tryd.zeroValue21
  t37 := Tryd.underlying27
  a37 := Tryd.isAgg27
  z37 := Tryd.sizeOf27
  v37 := Tryd.zeroValue27
  t40 := Tryd.underlying71
  a40 := Tryd.isAgg71
  z40 := Tryd.sizeOf71
  v40 := Tryd.zeroValue71
  t46 := Tryd.underlying93
  a46 := Tryd.isAgg93
  z46 := Tryd.sizeOf93
  v46 := Tryd.zeroValue93
  t49 := Tryd.underlying85
  a49 := Tryd.isAgg85
  z49 := Tryd.sizeOf85
  v49 := Tryd.zeroValue85
  t51 := Tryd.underlying75
  a51 := Tryd.isAgg75
  z51 := Tryd.sizeOf75
  v51 := Tryd.zeroValue75
  t105 := Tryd.underlying79
  a105 := Tryd.isAgg79
  z105 := Tryd.sizeOf79
  v105 := Tryd.zeroValue79
  t119 := Tryd.underlying72
  a119 := Tryd.isAgg72
  z119 := Tryd.sizeOf72
  t138 := Tryd.underlying97
  a138 := Tryd.isAgg97
  z138 := Tryd.sizeOf97
  v138 := Tryd.zeroValue97
  t139 := Tryd.underlying98
  a139 := Tryd.isAgg98
  z139 := Tryd.sizeOf98
  v139 := Tryd.zeroValue98
  t141 := Tryd.underlying77
  a141 := Tryd.isAgg77
  z141 := Tryd.sizeOf77
  v141 := Tryd.zeroValue77
  t193 := Tryd.underlying81
  a193 := Tryd.isAgg81
  z193 := Tryd.sizeOf81
  v193 := Tryd.zeroValue81
  t194 := Tryd.underlying82
  a194 := Tryd.isAgg82
  z194 := Tryd.sizeOf82
  v194 := Tryd.zeroValue82
  t196 := Tryd.underlying84
  a196 := Tryd.isAgg84
  z196 := Tryd.sizeOf84
  v196 := Tryd.zeroValue84
  t198 := Tryd.underlying87
  a198 := Tryd.isAgg87
  z198 := Tryd.sizeOf87
  v198 := Tryd.zeroValue87
  t201 := Tryd.underlying90
  a201 := Tryd.isAgg90
  z201 := Tryd.sizeOf90
  v201 := Tryd.zeroValue90
  t226 := Tryd.underlying92
  a226 := Tryd.isAgg92
  z226 := Tryd.sizeOf92
  v226 := Tryd.zeroValue92
  t227 := Tryd.underlying94
  a227 := Tryd.isAgg94
  z227 := Tryd.sizeOf94
  v227 := Tryd.zeroValue94
  g0 := by kernel_rfl
  g3 := by kernel_rfl
  g4 := by kernel_rfl
  g6 := by kernel_rfl }
theorem Tryd.Space_Extra_163 : Space.Extra Tryd.prog Tryd.lays163_ren := {
  gNamed := by kernel_rfl }
open Go.RowKit in
theorem Tryd.strings_TrimSpace (s : ByteArray) (w : World) (hs : s.size ≤ 9223372036854775807) (hascii : ∀ (j : Nat) b, s.data.toList[j]? = some b → b.toNat < 128) (htab : Lib.TabIs Tryd.prog w "strings.asciiSpace" .u8 Lib.asciiSpaceTab) :
    Calls Tryd.prog 26 #[.string s] w fun e w' => e = .returned (.string ⟨(Lib.trimSpace s.data.toList).toArray⟩) ∧ w' = Lib.bytesWorld w 5 s := Any.strings_TrimSpace Tryd.lays163 Tryd.Space_Extra_163 s w hs hascii htab
def Tryd.lays120_ren : Go.Shelf.Ren := ⟨fun | 120 => 45 | n => n, fun | 5 => 5 | 4 => 4 | n => n, fun | n => n⟩
theorem Tryd.lays120 : Go.Proofs.Lays.n120 Tryd.prog Tryd.lays120_ren := {
  mixed := by kernel_rfl
  f120 := Tryd.func45.trans (congrArg some (by kernel_rfl))
  t4 := Tryd.underlying4
  a4 := Tryd.isAgg4
  z4 := Tryd.sizeOf4
  v4 := Tryd.zeroValue4
  t5 := Tryd.underlying5
  a5 := Tryd.isAgg5
  z5 := Tryd.sizeOf5
  v5 := Tryd.zeroValue5 }
/-- utf8.RuneStart: "RuneStart reports whether the byte could be the first byte of an encoded, possibly invalid rune. Second and subsequent bytes always have the top two bits set to 10.": IT RETURNS 'Lib.runeStart b'; the world is as it was. ('h0', 'h1': b is a byte: a caller has it of every byte that it was handed.) (LAID: no walk: one application.) -/
theorem Tryd.utf8_RuneStart (b : Int) (w : World) (h0 : 0 ≤ b) (h1 : b < 256) :
    Calls Tryd.prog 45 #[.int .u8 b] w fun e w' => e = .returned (.bool (Lib.runeStart b)) ∧ w' = w := Any.utf8_RuneStart Tryd.lays120 b w h0 h1
def Tryd.laysM181_ren : Go.Shelf.Ren := ⟨fun | 181 => 70 | n => n, fun | 130 => 46 | 3 => 3 | 0 => 0 | 93 => 43 | 37 => 27 | 91 => 41 | 5 => 5 | n => n, fun | n => n⟩
theorem Tryd.laysM181 : Go.Proofs.LaysM.n181 Tryd.prog Tryd.laysM181_ren := {
  mixed := by kernel_rfl
  f181 := Tryd.func70.trans (congrArg some (by kernel_rfl))
  t0 := Tryd.underlying0
  a0 := Tryd.isAgg0
  z0 := Tryd.sizeOf0
  v0 := Tryd.zeroValue0
  t3 := Tryd.underlying3
  a3 := Tryd.isAgg3
  z3 := Tryd.sizeOf3
  v3 := Tryd.zeroValue3
  t37 := Tryd.underlying27
  a37 := Tryd.isAgg27
  z37 := Tryd.sizeOf27
  v37 := Tryd.zeroValue27
  t93 := Tryd.underlying43
  a93 := Tryd.isAgg43
  z93 := Tryd.sizeOf43
  v93 := Tryd.zeroValue43
  t130 := Tryd.underlying46
  a130 := Tryd.isAgg46
  z130 := Tryd.sizeOf46
  v130 := Tryd.zeroValue46
  t5 := Tryd.underlying5
  a5 := Tryd.isAgg5
  z5 := Tryd.sizeOf5
  v5 := Tryd.zeroValue5
  t91 := Tryd.underlying41
  a91 := Tryd.isAgg41
  z91 := Tryd.sizeOf41
  v91 := Tryd.zeroValue41
  i0 := by kernel_rfl
  i3 := by kernel_rfl
  i5 := by kernel_rfl
  i37 := by kernel_rfl
  i91 := by kernel_rfl
  i93 := by kernel_rfl
  i130 := by kernel_rfl }
open Go.RowKit in
/-- (*bytes.Buffer).Len: "Len returns the number of bytes of the unread portion of the buffer; b.Len() == len(b.Bytes()).": the world is as it was but for the count of draws (the statement has two reads: its order is drawn). (LAID: no walk: one application.) -/
theorem Tryd.Buffer_Len (B b : Nat) (bs : List Value) (w : World) (h : Lib.IsBuffer 43 5 B b bs w) :
    Calls Tryd.prog 70 #[.pointer (some ⟨b, 0, none⟩)] w fun e w' => e = .returned (.int .i64 bs.length) ∧ ∃ n, w' = w.drewN n := Any.Buffer_Len Tryd.laysM181 B b bs w h
def Tryd.laysM251_ren : Go.Shelf.Ren := ⟨fun | 251 => 68 | n => n, fun | 130 => 46 | 3 => 3 | 4 => 4 | 0 => 0 | 93 => 43 | 37 => 27 | 91 => 41 | 5 => 5 | n => n, fun | n => n⟩
theorem Tryd.laysM251 : Go.Proofs.LaysM.n251 Tryd.prog Tryd.laysM251_ren := {
  mixed := by kernel_rfl
  f251 := Tryd.func68.trans (congrArg some (by kernel_rfl))
  t0 := Tryd.underlying0
  a0 := Tryd.isAgg0
  z0 := Tryd.sizeOf0
  v0 := Tryd.zeroValue0
  t3 := Tryd.underlying3
  a3 := Tryd.isAgg3
  z3 := Tryd.sizeOf3
  v3 := Tryd.zeroValue3
  t4 := Tryd.underlying4
  a4 := Tryd.isAgg4
  z4 := Tryd.sizeOf4
  v4 := Tryd.zeroValue4
  t37 := Tryd.underlying27
  a37 := Tryd.isAgg27
  z37 := Tryd.sizeOf27
  v37 := Tryd.zeroValue27
  t93 := Tryd.underlying43
  a93 := Tryd.isAgg43
  z93 := Tryd.sizeOf43
  v93 := Tryd.zeroValue43
  t130 := Tryd.underlying46
  a130 := Tryd.isAgg46
  z130 := Tryd.sizeOf46
  v130 := Tryd.zeroValue46
  t5 := Tryd.underlying5
  a5 := Tryd.isAgg5
  z5 := Tryd.sizeOf5
  v5 := Tryd.zeroValue5
  t91 := Tryd.underlying41
  a91 := Tryd.isAgg41
  z91 := Tryd.sizeOf41
  v91 := Tryd.zeroValue41
  i0 := by kernel_rfl
  i3 := by kernel_rfl
  i4 := by kernel_rfl
  i5 := by kernel_rfl
  i37 := by kernel_rfl
  i91 := by kernel_rfl
  i93 := by kernel_rfl
  i130 := by kernel_rfl }
open Go.RowKit in
/-- (*bytes.Buffer).tryGrowByReslice: "tryGrowByReslice is an inlineable version of grow for the fast-case where the internal buffer only needs to be resliced. It returns the index where bytes should be written and whether it succeeded.": THERE IS ROOM: 'buf' is resliced to l + n. (LAID: no walk: one application.) -/
theorem Tryd.Buffer_tryGrow_room (b : Nat) (ao : Option Addr) (l cap n : Nat) (w : World) (c0 : w.cell? ⟨b, 0, none⟩ = some (.slice ao l cap)) (f0 : w.frozen? ⟨b, 0, none⟩ = false) (hlc : l ≤ cap) (hcap : cap ≤ maxLen) (hn : n ≤ cap - l) :
    Calls Tryd.prog 68 #[.pointer (some ⟨b, 0, none⟩), .int .i64 n] w fun e w' => e = .returned (.tuple #[.int .i64 l, .bool true]) ∧ w' = w.setCell ⟨b, 0, none⟩ (.slice ao (l + n) cap) := Any.Buffer_tryGrow_room Tryd.laysM251 b ao l cap n w c0 f0 hlc hcap hn
open Go.RowKit in
/-- .. THERE IS NONE: nothing turns. (LAID: no walk: one application.) -/
theorem Tryd.Buffer_tryGrow_none (b : Nat) (ao : Option Addr) (l cap n : Nat) (w : World) (c0 : w.cell? ⟨b, 0, none⟩ = some (.slice ao l cap)) (hlc : l ≤ cap) (hcap : cap ≤ maxLen) (hn : cap - l < n) :
    Calls Tryd.prog 68 #[.pointer (some ⟨b, 0, none⟩), .int .i64 n] w fun e w' => e = .returned (.tuple #[.int .i64 0, .bool false]) ∧ w' = w := Any.Buffer_tryGrow_none Tryd.laysM251 b ao l cap n w c0 hlc hcap hn
def Tryd.laysM324_ren : Go.Shelf.Ren := ⟨fun | 324 => 72 | n => n, fun | 20 => 20 | 4 => 4 | 75 => 38 | 0 => 0 | 80 => 102 | 9 => 9 | n => n, fun | 14 => 9 | n => n⟩
theorem Tryd.laysM324 : Go.Proofs.LaysM.n324 Tryd.prog Tryd.laysM324_ren := {
  mixed := by kernel_rfl
  f324 := Tryd.func72.trans (congrArg some (by kernel_rfl))
  t0 := Tryd.underlying0
  a0 := Tryd.isAgg0
  z0 := Tryd.sizeOf0
  v0 := Tryd.zeroValue0
  t4 := Tryd.underlying4
  a4 := Tryd.isAgg4
  z4 := Tryd.sizeOf4
  v4 := Tryd.zeroValue4
  t20 := Tryd.underlying20
  a20 := Tryd.isAgg20
  z20 := Tryd.sizeOf20
  v20 := Tryd.zeroValue20
  t75 := Tryd.underlying38
  a75 := Tryd.isAgg38
  z75 := Tryd.sizeOf38
  v75 := Tryd.zeroValue38
  g14 := by kernel_rfl
  t9 := Tryd.underlying9
  a9 := Tryd.isAgg9
  z9 := Tryd.sizeOf9
  v9 := Tryd.zeroValue9
  t80 := Tryd.underlying102
  a80 := Tryd.isAgg102
  z80 := Tryd.sizeOf102
  v80 := Tryd.zeroValue102
  i0 := by kernel_rfl
  i4 := by kernel_rfl
  i9 := by kernel_rfl
  i20 := by kernel_rfl
  i75 := by kernel_rfl
  i80 := by kernel_rfl
  m14 := by kernel_rfl }
theorem Tryd.growSlice_catch_idle (w : World) :
    CallsD Tryd.prog 72 #[] .returning w fun e u' w' => e = .returned (.tuple #[]) ∧ u' = .returning ∧ w' = w := Any.growSlice_catch_idle Tryd.laysM324 w
def Tryd.laysM290_ren : Go.Shelf.Ren := ⟨fun | 290 => 71 | 324 => 72 | n => n, fun | 37 => 27 | 3 => 3 | 0 => 0 | 4 => 4 | 20 => 20 | 75 => 38 | 5 => 5 | 80 => 102 | 9 => 9 | n => n, fun | 14 => 9 | n => n⟩
theorem Tryd.laysM290 : Go.Proofs.LaysM.n290 Tryd.prog Tryd.laysM290_ren := {
  mixed := by kernel_rfl
  f290 := Tryd.func71.trans (congrArg some (by kernel_rfl))
  f324 := Tryd.func72.trans (congrArg some (by kernel_rfl))
  t0 := Tryd.underlying0
  a0 := Tryd.isAgg0
  z0 := Tryd.sizeOf0
  v0 := Tryd.zeroValue0
  t3 := Tryd.underlying3
  a3 := Tryd.isAgg3
  z3 := Tryd.sizeOf3
  v3 := Tryd.zeroValue3
  t4 := Tryd.underlying4
  a4 := Tryd.isAgg4
  z4 := Tryd.sizeOf4
  v4 := Tryd.zeroValue4
  t20 := Tryd.underlying20
  a20 := Tryd.isAgg20
  z20 := Tryd.sizeOf20
  v20 := Tryd.zeroValue20
  t37 := Tryd.underlying27
  a37 := Tryd.isAgg27
  z37 := Tryd.sizeOf27
  v37 := Tryd.zeroValue27
  t75 := Tryd.underlying38
  a75 := Tryd.isAgg38
  z75 := Tryd.sizeOf38
  v75 := Tryd.zeroValue38
  g14 := by kernel_rfl
  t5 := Tryd.underlying5
  a5 := Tryd.isAgg5
  z5 := Tryd.sizeOf5
  v5 := Tryd.zeroValue5
  t9 := Tryd.underlying9
  a9 := Tryd.isAgg9
  z9 := Tryd.sizeOf9
  v9 := Tryd.zeroValue9
  t80 := Tryd.underlying102
  a80 := Tryd.isAgg102
  z80 := Tryd.sizeOf102
  v80 := Tryd.zeroValue102
  i0 := by kernel_rfl
  i3 := by kernel_rfl
  i4 := by kernel_rfl
  i5 := by kernel_rfl
  i9 := by kernel_rfl
  i20 := by kernel_rfl
  i37 := by kernel_rfl
  i75 := by kernel_rfl
  i80 := by kernel_rfl
  m14 := by kernel_rfl }
open Go.RowKit in
/-- bytes.growSlice: "growSlice grows b by n, preserving the original content of b.": OF A SLICE THAT LIES AT THE HEAD OF A ROW: a new row, number 'w.heap.size': it begins with b's l cells; its capacity has room for n more; whatever lay below is as it was. (LAID: no walk: one application.) -/
theorem Tryd.bytes_growSlice_row (g l c n : Nat) (cur : Array Value) (w : World) (hg : w.heap[g]? = some (.cells cur 5 (0, 0))) (hcs : cur.size = c) (hlc : l ≤ c) (hn : 1 ≤ n) (hlim : l + n ≤ 140737488355328) (hc2 : c ≤ 140737488355328) (h1 : ∀ v ∈ cur.toList.take l, v.oneCell' = true) :
    Calls Tryd.prog 71 #[.slice (some ⟨g, 0, none⟩) l c, .int .i64 n] w fun e w' => ∃ cap2 cells, e = .returned (.slice (some ⟨w.heap.size, 0, none⟩) l cap2) ∧ w'.heap[w.heap.size]? = some (.cells cells 5 (0, 0)) ∧
      cells.size = cap2 ∧ cells.toList.take l = cur.toList.take l ∧ l + n ≤ cap2 ∧ cap2 ≤ maxLen ∧ Below w.heap.size w w' := Any.bytes_growSlice_row Tryd.laysM290 g l c n cur w hg hcs hlc hn hlim hc2 h1
open Go.RowKit in
/-- .. OF THE NIL SLICE: a new row with room for n. (LAID: no walk: one application.) -/
theorem Tryd.bytes_growSlice_nil (n : Nat) (w : World) (hn : 1 ≤ n) (hlim : n ≤ 140737488355328) :
    Calls Tryd.prog 71 #[.slice none 0 0, .int .i64 n] w fun e w' => ∃ cap2 cells, e = .returned (.slice (some ⟨w.heap.size, 0, none⟩) 0 cap2) ∧ w'.heap[w.heap.size]? = some (.cells cells 5 (0, 0)) ∧
      cells.size = cap2 ∧ n ≤ cap2 ∧ cap2 ≤ maxLen ∧ Below w.heap.size w w' := Any.bytes_growSlice_nil Tryd.laysM290 n w hn hlim
def Tryd.laysM252_ren : Go.Shelf.Ren := ⟨fun | 252 => 69 | 181 => 70 | 184 => 64 | 251 => 68 | 290 => 71 | 324 => 72 | n => n, fun | 130 => 46 | 3 => 3 | 4 => 4 | 0 => 0 | 93 => 43 | 131 => 117 | 37 => 27 | 75 => 38 | 91 => 41 | 20 => 20 | 5 => 5 | 80 => 102 | 9 => 9 | n => n, fun | 14 => 9 | n => n⟩
theorem Tryd.laysM252 : Go.Proofs.LaysM.n252 Tryd.prog Tryd.laysM252_ren := {
  mixed := by kernel_rfl
  f181 := Tryd.func70.trans (congrArg some (by kernel_rfl))
  f184 := Tryd.func64.trans (congrArg some (by kernel_rfl))
  f251 := Tryd.func68.trans (congrArg some (by kernel_rfl))
  f252 := Tryd.func69.trans (congrArg some (by kernel_rfl))
  f290 := Tryd.func71.trans (congrArg some (by kernel_rfl))
  f324 := Tryd.func72.trans (congrArg some (by kernel_rfl))
  t0 := Tryd.underlying0
  a0 := Tryd.isAgg0
  z0 := Tryd.sizeOf0
  v0 := Tryd.zeroValue0
  t3 := Tryd.underlying3
  a3 := Tryd.isAgg3
  z3 := Tryd.sizeOf3
  v3 := Tryd.zeroValue3
  t4 := Tryd.underlying4
  a4 := Tryd.isAgg4
  z4 := Tryd.sizeOf4
  v4 := Tryd.zeroValue4
  t20 := Tryd.underlying20
  a20 := Tryd.isAgg20
  z20 := Tryd.sizeOf20
  v20 := Tryd.zeroValue20
  t37 := Tryd.underlying27
  a37 := Tryd.isAgg27
  z37 := Tryd.sizeOf27
  v37 := Tryd.zeroValue27
  t75 := Tryd.underlying38
  a75 := Tryd.isAgg38
  z75 := Tryd.sizeOf38
  v75 := Tryd.zeroValue38
  t91 := Tryd.underlying41
  a91 := Tryd.isAgg41
  z91 := Tryd.sizeOf41
  v91 := Tryd.zeroValue41
  t93 := Tryd.underlying43
  a93 := Tryd.isAgg43
  z93 := Tryd.sizeOf43
  v93 := Tryd.zeroValue43
  t130 := Tryd.underlying46
  a130 := Tryd.isAgg46
  z130 := Tryd.sizeOf46
  v130 := Tryd.zeroValue46
  t131 := Tryd.underlying117
  a131 := Tryd.isAgg117
  z131 := Tryd.sizeOf117
  v131 := Tryd.zeroValue117
  g14 := by kernel_rfl
  t5 := Tryd.underlying5
  a5 := Tryd.isAgg5
  z5 := Tryd.sizeOf5
  v5 := Tryd.zeroValue5
  t9 := Tryd.underlying9
  a9 := Tryd.isAgg9
  z9 := Tryd.sizeOf9
  v9 := Tryd.zeroValue9
  t80 := Tryd.underlying102
  a80 := Tryd.isAgg102
  z80 := Tryd.sizeOf102
  v80 := Tryd.zeroValue102
  i0 := by kernel_rfl
  i3 := by kernel_rfl
  i4 := by kernel_rfl
  i5 := by kernel_rfl
  i9 := by kernel_rfl
  i20 := by kernel_rfl
  i37 := by kernel_rfl
  i75 := by kernel_rfl
  i80 := by kernel_rfl
  i91 := by kernel_rfl
  i93 := by kernel_rfl
  i130 := by kernel_rfl
  i131 := by kernel_rfl
  m14 := by kernel_rfl }
open Go.RowKit in
/-- grow, WHERE THE BUFFER HOLDS A ROW, NO BYTE IN IT (behind a Reset), AND THE ROW HAS NO ROOM: growSlice. (THE TEXT OF 'Buffer_grow_row' WITH 0 FOR l, BY PROGRAM: the walk parts on 'm == 0' and writes 0 for l throughout the goal: facts that still say l then do not strike: so l is laid in ahead of the walk.) (LAID: no walk: one application.) -/
theorem Tryd.Buffer_grow_row0 (B b g cap n : Nat) (lr : Int) (cur : Array Value) (bs : List Value) (w : World) (hB : B ≤ b) (hBw : B ≤ w.heap.size) (hbk : w.heap[b]? = some (.cells #[.slice (some ⟨g, 0, none⟩) 0 cap, .int .i64 0, .int .i8 lr] 43 (0, 0))) (hl : bs.length = 0) (hBg : B ≤ g) (hg : w.heap[g]? = some (.cells cur 5 (0, 0))) (hlc : 0 ≤ cap) (hcm : cap ≤ maxLen) (hcs : cur.size = cap) (htake : cur.toList.take 0 = bs) (hgb : g ≠ b) (h1 : ∀ v ∈ bs, v.oneCell' = true) (hn : 1 ≤ n) (hroom : cap - 0 < n) (hlim : 0 + n ≤ 140737488355328) :
    Calls Tryd.prog 69 #[.pointer (some ⟨b, 0, none⟩), .int .i64 n] w fun e w' => e = .returned (.int .i64 0) ∧ ∃ xs, xs.length = n ∧ Lib.IsBuffer 43 5 B b (bs ++ xs) w' ∧ Below B w w' := Any.Buffer_grow_row0 Tryd.laysM252 B b g cap n lr cur bs w hB hBw hbk hl hBg hg hlc hcm hcs htake hgb h1 hn hroom hlim
open Go.RowKit in
/-- grow, WHERE THE BUFFER HOLDS A ROW THAT HAS NO ROOM: growSlice. (LAID: no walk: one application.) -/
theorem Tryd.Buffer_grow_row (B b g l cap n : Nat) (lr : Int) (cur : Array Value) (bs : List Value) (w : World) (hB : B ≤ b) (hBw : B ≤ w.heap.size) (hbk : w.heap[b]? = some (.cells #[.slice (some ⟨g, 0, none⟩) l cap, .int .i64 0, .int .i8 lr] 43 (0, 0))) (hl : bs.length = l) (hBg : B ≤ g) (hg : w.heap[g]? = some (.cells cur 5 (0, 0))) (hlc : l ≤ cap) (hcm : cap ≤ maxLen) (hcs : cur.size = cap) (htake : cur.toList.take l = bs) (hgb : g ≠ b) (h1 : ∀ v ∈ bs, v.oneCell' = true) (hn : 1 ≤ n) (hroom : cap - l < n) (hlim : l + n ≤ 140737488355328) :
    Calls Tryd.prog 69 #[.pointer (some ⟨b, 0, none⟩), .int .i64 n] w fun e w' => e = .returned (.int .i64 l) ∧ ∃ xs, xs.length = n ∧ Lib.IsBuffer 43 5 B b (bs ++ xs) w' ∧ Below B w w' := Any.Buffer_grow_row Tryd.laysM252 B b g l cap n lr cur bs w hB hBw hbk hl hBg hg hlc hcm hcs htake hgb h1 hn hroom hlim
open Go.RowKit in
/-- grow, 'buf' nil, n AT MOST 64: 'b.buf = make([]byte, n, smallBufferSize)'. (LAID: no walk: one application.) -/
theorem Tryd.Buffer_grow_nil_small (B b n : Nat) (lr : Int) (w : World) (hB : B ≤ b) (hBw : B ≤ w.heap.size) (hbk : w.heap[b]? = some (.cells #[.slice none 0 0, .int .i64 0, .int .i8 lr] 43 (0, 0))) (hn : 1 ≤ n) (h64 : n ≤ 64) :
    Calls Tryd.prog 69 #[.pointer (some ⟨b, 0, none⟩), .int .i64 n] w fun e w' => e = .returned (.int .i64 0) ∧ ∃ xs, xs.length = n ∧ Lib.IsBuffer 43 5 B b xs w' ∧ Below B w w' := Any.Buffer_grow_nil_small Tryd.laysM252 B b n lr w hB hBw hbk hn h64
open Go.RowKit in
/-- grow, 'buf' nil, n ABOVE 64: growSlice of the nil slice. (LAID: no walk: one application.) -/
theorem Tryd.Buffer_grow_nil_big (B b n : Nat) (lr : Int) (w : World) (hB : B ≤ b) (hBw : B ≤ w.heap.size) (hbk : w.heap[b]? = some (.cells #[.slice none 0 0, .int .i64 0, .int .i8 lr] 43 (0, 0))) (h64 : 64 < n) (hlim : n ≤ 140737488355328) :
    Calls Tryd.prog 69 #[.pointer (some ⟨b, 0, none⟩), .int .i64 n] w fun e w' => e = .returned (.int .i64 0) ∧ ∃ xs, xs.length = n ∧ Lib.IsBuffer 43 5 B b xs w' ∧ Below B w w' := Any.Buffer_grow_nil_big Tryd.laysM252 B b n lr w hB hBw hbk h64 hlim
open Go.RowKit in
/-- tryGrowByReslice: EITHER there is room: the place to write at is the old length, and the buffer holds the old bytes and n more of whatever lay there; OR there is none: nothing turns, and 'Lib.NoRoom' is what grow asks. (LAID: no walk: one application.) -/
theorem Tryd.Buffer_tryGrow (B b n : Nat) (bs : List Value) (w : World) (h : Lib.IsBuffer 43 5 B b bs w) :
    Calls Tryd.prog 68 #[.pointer (some ⟨b, 0, none⟩), .int .i64 n] w fun e w' =>
      (e = .returned (.tuple #[.int .i64 bs.length, .bool true]) ∧ ∃ xs, xs.length = n ∧ Lib.IsBuffer 43 5 B b (bs ++ xs) w' ∧ Below B w w') ∨
      (e = .returned (.tuple #[.int .i64 0, .bool false]) ∧ w' = w ∧ Lib.NoRoom b n w) := Any.Buffer_tryGrow Tryd.laysM251 B b n bs w h
open Go.RowKit in
/-- (*bytes.Buffer).grow: "grow grows the buffer to guarantee space for n more bytes. It returns the index where bytes should be written.": WHERE THERE IS NO ROOM; UNDER Go's OWN LIMIT (the new length takes at most 2^47 bytes): the old length; the buffer holds the old bytes and n more of whatever. (LAID: no walk: one application.) -/
theorem Tryd.Buffer_grow (B b n : Nat) (bs : List Value) (w : World) (h : Lib.IsBuffer 43 5 B b bs w) (hnr : Lib.NoRoom b n w) (hBw : B ≤ w.heap.size) (h1 : ∀ v ∈ bs, v.oneCell' = true) (hlim : bs.length + n ≤ 140737488355328) :
    Calls Tryd.prog 69 #[.pointer (some ⟨b, 0, none⟩), .int .i64 n] w fun e w' => e = .returned (.int .i64 bs.length) ∧ ∃ xs, xs.length = n ∧ Lib.IsBuffer 43 5 B b (bs ++ xs) w' ∧ Below B w w' := Any.Buffer_grow Tryd.laysM252 B b n bs w h hnr hBw h1 hlim
def Tryd.laysM180_ren : Go.Shelf.Ren := ⟨fun | 180 => 66 | 251 => 68 | 252 => 69 | 181 => 70 | 184 => 64 | 290 => 71 | 324 => 72 | n => n, fun | 130 => 46 | 37 => 27 | 3 => 3 | 75 => 38 | 0 => 0 | 93 => 43 | 91 => 41 | 131 => 117 | 4 => 4 | 20 => 20 | 5 => 5 | 80 => 102 | 9 => 9 | n => n, fun | 14 => 9 | n => n⟩
theorem Tryd.laysM180 : Go.Proofs.LaysM.n180 Tryd.prog Tryd.laysM180_ren := {
  mixed := by kernel_rfl
  f180 := Tryd.func66.trans (congrArg some (by kernel_rfl))
  f181 := Tryd.func70.trans (congrArg some (by kernel_rfl))
  f184 := Tryd.func64.trans (congrArg some (by kernel_rfl))
  f251 := Tryd.func68.trans (congrArg some (by kernel_rfl))
  f252 := Tryd.func69.trans (congrArg some (by kernel_rfl))
  f290 := Tryd.func71.trans (congrArg some (by kernel_rfl))
  f324 := Tryd.func72.trans (congrArg some (by kernel_rfl))
  t0 := Tryd.underlying0
  a0 := Tryd.isAgg0
  z0 := Tryd.sizeOf0
  v0 := Tryd.zeroValue0
  t3 := Tryd.underlying3
  a3 := Tryd.isAgg3
  z3 := Tryd.sizeOf3
  v3 := Tryd.zeroValue3
  t4 := Tryd.underlying4
  a4 := Tryd.isAgg4
  z4 := Tryd.sizeOf4
  v4 := Tryd.zeroValue4
  t20 := Tryd.underlying20
  a20 := Tryd.isAgg20
  z20 := Tryd.sizeOf20
  v20 := Tryd.zeroValue20
  t37 := Tryd.underlying27
  a37 := Tryd.isAgg27
  z37 := Tryd.sizeOf27
  v37 := Tryd.zeroValue27
  t75 := Tryd.underlying38
  a75 := Tryd.isAgg38
  z75 := Tryd.sizeOf38
  v75 := Tryd.zeroValue38
  t91 := Tryd.underlying41
  a91 := Tryd.isAgg41
  z91 := Tryd.sizeOf41
  v91 := Tryd.zeroValue41
  t93 := Tryd.underlying43
  a93 := Tryd.isAgg43
  z93 := Tryd.sizeOf43
  v93 := Tryd.zeroValue43
  t130 := Tryd.underlying46
  a130 := Tryd.isAgg46
  z130 := Tryd.sizeOf46
  v130 := Tryd.zeroValue46
  t131 := Tryd.underlying117
  a131 := Tryd.isAgg117
  z131 := Tryd.sizeOf117
  v131 := Tryd.zeroValue117
  g14 := by kernel_rfl
  t5 := Tryd.underlying5
  a5 := Tryd.isAgg5
  z5 := Tryd.sizeOf5
  v5 := Tryd.zeroValue5
  t9 := Tryd.underlying9
  a9 := Tryd.isAgg9
  z9 := Tryd.sizeOf9
  v9 := Tryd.zeroValue9
  t80 := Tryd.underlying102
  a80 := Tryd.isAgg102
  z80 := Tryd.sizeOf102
  v80 := Tryd.zeroValue102
  i0 := by kernel_rfl
  i3 := by kernel_rfl
  i4 := by kernel_rfl
  i5 := by kernel_rfl
  i9 := by kernel_rfl
  i20 := by kernel_rfl
  i37 := by kernel_rfl
  i75 := by kernel_rfl
  i80 := by kernel_rfl
  i91 := by kernel_rfl
  i93 := by kernel_rfl
  i130 := by kernel_rfl
  i131 := by kernel_rfl
  m14 := by kernel_rfl }
open Go.RowKit in
/-- (*bytes.Buffer).Write: "Write appends the contents of p to the buffer, growing the buffer as needed. The return value n is the length of p; err is always nil." (LAID: no walk: one application.) -/
theorem Tryd.Buffer_Write (B b : Nat) (bs cs : List Value) (a : Addr) (n c : Nat) (w : World) (h : Lib.IsBuffer 43 5 B b bs w) (hBw : B ≤ w.heap.size) (h1 : ∀ v ∈ bs, v.oneCell' = true) (hn : cs.length = n) (haB : a.block < B) (hsrc : ∀ j v, cs[j]? = some v → w.cell? (a.add j) = some v) (h1c : ∀ v ∈ cs, v.oneCell' = true) (hlim : bs.length + n ≤ 140737488355328) :
    Calls Tryd.prog 66 #[.pointer (some ⟨b, 0, none⟩), .slice (some a) n c] w fun e w' => e = .returned (.tuple #[.int .i64 n, .nilIface]) ∧ Lib.IsBuffer 43 5 B b (bs ++ cs) w' ∧ Below B w w' := Any.Buffer_Write Tryd.laysM180 B b bs cs a n c w h hBw h1 hn haB hsrc h1c hlim
def Tryd.laysM183_ren : Go.Shelf.Ren := ⟨fun | 183 => 20 | n => n, fun | 130 => 46 | 37 => 27 | 0 => 0 | 93 => 43 | 3 => 3 | 5 => 5 | 91 => 41 | n => n, fun | n => n⟩
theorem Tryd.laysM183 : Go.Proofs.LaysM.n183 Tryd.prog Tryd.laysM183_ren := {
  mixed := by kernel_rfl
  f183 := Tryd.func20.trans (congrArg some (by kernel_rfl))
  t0 := Tryd.underlying0
  a0 := Tryd.isAgg0
  z0 := Tryd.sizeOf0
  v0 := Tryd.zeroValue0
  t3 := Tryd.underlying3
  a3 := Tryd.isAgg3
  z3 := Tryd.sizeOf3
  v3 := Tryd.zeroValue3
  t37 := Tryd.underlying27
  a37 := Tryd.isAgg27
  z37 := Tryd.sizeOf27
  v37 := Tryd.zeroValue27
  t93 := Tryd.underlying43
  a93 := Tryd.isAgg43
  z93 := Tryd.sizeOf43
  v93 := Tryd.zeroValue43
  t130 := Tryd.underlying46
  a130 := Tryd.isAgg46
  z130 := Tryd.sizeOf46
  v130 := Tryd.zeroValue46
  t5 := Tryd.underlying5
  a5 := Tryd.isAgg5
  z5 := Tryd.sizeOf5
  v5 := Tryd.zeroValue5
  t91 := Tryd.underlying41
  a91 := Tryd.isAgg41
  z91 := Tryd.sizeOf41
  v91 := Tryd.zeroValue41
  i0 := by kernel_rfl
  i3 := by kernel_rfl
  i5 := by kernel_rfl
  i37 := by kernel_rfl
  i91 := by kernel_rfl
  i93 := by kernel_rfl
  i130 := by kernel_rfl }
open Go.RowKit in
/-- (*bytes.Buffer).Bytes: "Bytes returns a slice of length b.Len() holding the unread portion of the buffer. .. The slice aliases the buffer content at least until the next buffer modification": A SLICE THAT OWNS THE CELLS bs ('World.ownsRow': nil where nothing was ever written). The world is as it was but for the count of draws. (LAID: no walk: one application.) -/
theorem Tryd.Buffer_Bytes (B b : Nat) (bs : List Value) (w : World) (h : Lib.IsBuffer 43 5 B b bs w) :
    Calls Tryd.prog 20 #[.pointer (some ⟨b, 0, none⟩)] w fun e w' => ∃ v, e = .returned v ∧ w'.ownsRow B 5 1 v bs.length bs ∧ ∃ n, w' = w.drewN n := Any.Buffer_Bytes Tryd.laysM183 B b bs w h
open Go.RowKit in
/-- grow, WHERE THE BUFFER HOLDS A ROW, NO BYTE IN IT (behind a Reset), AND THE ROW HAS NO ROOM: growSlice. (THE TEXT OF 'Buffer_grow_row' WITH 0 FOR l, BY PROGRAM: the walk parts on 'm == 0' and writes 0 for l throughout the goal: facts that still say l then do not strike: so l is laid in ahead of the walk.) (LAID: no walk: one application.) -/
theorem Tryd.Buffer_grow_row0_kept (B b g cap n : Nat) (lr : Int) (cur : Array Value) (bs : List Value) (w : World) (hB : B ≤ b) (hBw : B ≤ w.heap.size) (hbk : w.heap[b]? = some (.cells #[.slice (some ⟨g, 0, none⟩) 0 cap, .int .i64 0, .int .i8 lr] 43 (0, 0))) (hl : bs.length = 0) (hBg : B ≤ g) (hg : w.heap[g]? = some (.cells cur 5 (0, 0))) (hlc : 0 ≤ cap) (hcm : cap ≤ maxLen) (hcs : cur.size = cap) (htake : cur.toList.take 0 = bs) (hgb : g ≠ b) (h1 : ∀ v ∈ bs, v.oneCell' = true) (hn : 1 ≤ n) (hroom : cap - 0 < n) (hlim : 0 + n ≤ 140737488355328) :
    Calls Tryd.prog 69 #[.pointer (some ⟨b, 0, none⟩), .int .i64 n] w fun e w' => e = .returned (.int .i64 0) ∧ ∃ xs, xs.length = n ∧ Lib.IsBuffer 43 5 B b (bs ++ xs) w' ∧ Below B w w' ∧ Lib.OthersKept 5 (some b) w w' := Any.Buffer_grow_row0_kept Tryd.laysM252 B b g cap n lr cur bs w hB hBw hbk hl hBg hg hlc hcm hcs htake hgb h1 hn hroom hlim
open Go.RowKit in
/-- grow, WHERE THE BUFFER HOLDS A ROW THAT HAS NO ROOM: growSlice. (LAID: no walk: one application.) -/
theorem Tryd.Buffer_grow_row_kept (B b g l cap n : Nat) (lr : Int) (cur : Array Value) (bs : List Value) (w : World) (hB : B ≤ b) (hBw : B ≤ w.heap.size) (hbk : w.heap[b]? = some (.cells #[.slice (some ⟨g, 0, none⟩) l cap, .int .i64 0, .int .i8 lr] 43 (0, 0))) (hl : bs.length = l) (hBg : B ≤ g) (hg : w.heap[g]? = some (.cells cur 5 (0, 0))) (hlc : l ≤ cap) (hcm : cap ≤ maxLen) (hcs : cur.size = cap) (htake : cur.toList.take l = bs) (hgb : g ≠ b) (h1 : ∀ v ∈ bs, v.oneCell' = true) (hn : 1 ≤ n) (hroom : cap - l < n) (hlim : l + n ≤ 140737488355328) :
    Calls Tryd.prog 69 #[.pointer (some ⟨b, 0, none⟩), .int .i64 n] w fun e w' => e = .returned (.int .i64 l) ∧ ∃ xs, xs.length = n ∧ Lib.IsBuffer 43 5 B b (bs ++ xs) w' ∧ Below B w w' ∧ Lib.OthersKept 5 (some b) w w' := Any.Buffer_grow_row_kept Tryd.laysM252 B b g l cap n lr cur bs w hB hBw hbk hl hBg hg hlc hcm hcs htake hgb h1 hn hroom hlim
open Go.RowKit in
/-- grow, 'buf' nil, n AT MOST 64: 'b.buf = make([]byte, n, smallBufferSize)'. (LAID: no walk: one application.) -/
theorem Tryd.Buffer_grow_nil_small_kept (B b n : Nat) (lr : Int) (w : World) (hB : B ≤ b) (hBw : B ≤ w.heap.size) (hbk : w.heap[b]? = some (.cells #[.slice none 0 0, .int .i64 0, .int .i8 lr] 43 (0, 0))) (hn : 1 ≤ n) (h64 : n ≤ 64) :
    Calls Tryd.prog 69 #[.pointer (some ⟨b, 0, none⟩), .int .i64 n] w fun e w' => e = .returned (.int .i64 0) ∧ ∃ xs, xs.length = n ∧ Lib.IsBuffer 43 5 B b xs w' ∧ Below B w w' ∧ Lib.OthersKept 5 (some b) w w' := Any.Buffer_grow_nil_small_kept Tryd.laysM252 B b n lr w hB hBw hbk hn h64
open Go.RowKit in
/-- grow, 'buf' nil, n ABOVE 64: growSlice of the nil slice. (LAID: no walk: one application.) -/
theorem Tryd.Buffer_grow_nil_big_kept (B b n : Nat) (lr : Int) (w : World) (hB : B ≤ b) (hBw : B ≤ w.heap.size) (hbk : w.heap[b]? = some (.cells #[.slice none 0 0, .int .i64 0, .int .i8 lr] 43 (0, 0))) (h64 : 64 < n) (hlim : n ≤ 140737488355328) :
    Calls Tryd.prog 69 #[.pointer (some ⟨b, 0, none⟩), .int .i64 n] w fun e w' => e = .returned (.int .i64 0) ∧ ∃ xs, xs.length = n ∧ Lib.IsBuffer 43 5 B b xs w' ∧ Below B w w' ∧ Lib.OthersKept 5 (some b) w w' := Any.Buffer_grow_nil_big_kept Tryd.laysM252 B b n lr w hB hBw hbk h64 hlim
open Go.RowKit in
/-- tryGrowByReslice: EITHER there is room: the place to write at is the old length, and the buffer holds the old bytes and n more of whatever lay there; OR there is none: nothing turns, and 'Lib.NoRoom' is what grow asks. (LAID: no walk: one application.) -/
theorem Tryd.Buffer_tryGrow_kept (B b n : Nat) (bs : List Value) (w : World) (h : Lib.IsBuffer 43 5 B b bs w) :
    Calls Tryd.prog 68 #[.pointer (some ⟨b, 0, none⟩), .int .i64 n] w fun e w' =>
      (e = .returned (.tuple #[.int .i64 bs.length, .bool true]) ∧ ∃ xs, xs.length = n ∧ Lib.IsBuffer 43 5 B b (bs ++ xs) w' ∧ Below B w w' ∧ Lib.OthersKept 5 (some b) w w') ∨
      (e = .returned (.tuple #[.int .i64 0, .bool false]) ∧ w' = w ∧ Lib.NoRoom b n w) := Any.Buffer_tryGrow_kept Tryd.laysM251 B b n bs w h
open Go.RowKit in
/-- (*bytes.Buffer).grow: "grow grows the buffer to guarantee space for n more bytes. It returns the index where bytes should be written.": WHERE THERE IS NO ROOM; UNDER Go's OWN LIMIT (the new length takes at most 2^47 bytes): the old length; the buffer holds the old bytes and n more of whatever. (LAID: no walk: one application.) -/
theorem Tryd.Buffer_grow_kept (B b n : Nat) (bs : List Value) (w : World) (h : Lib.IsBuffer 43 5 B b bs w) (hnr : Lib.NoRoom b n w) (hBw : B ≤ w.heap.size) (h1 : ∀ v ∈ bs, v.oneCell' = true) (hlim : bs.length + n ≤ 140737488355328) :
    Calls Tryd.prog 69 #[.pointer (some ⟨b, 0, none⟩), .int .i64 n] w fun e w' => e = .returned (.int .i64 bs.length) ∧ ∃ xs, xs.length = n ∧ Lib.IsBuffer 43 5 B b (bs ++ xs) w' ∧ Below B w w' ∧ Lib.OthersKept 5 (some b) w w' := Any.Buffer_grow_kept Tryd.laysM252 B b n bs w h hnr hBw h1 hlim
def Tryd.laysM184_ren : Go.Shelf.Ren := ⟨fun | 184 => 64 | n => n, fun | 130 => 46 | 0 => 0 | 93 => 43 | 37 => 27 | 3 => 3 | 91 => 41 | 5 => 5 | n => n, fun | n => n⟩
theorem Tryd.laysM184 : Go.Proofs.LaysM.n184 Tryd.prog Tryd.laysM184_ren := {
  mixed := by kernel_rfl
  f184 := Tryd.func64.trans (congrArg some (by kernel_rfl))
  t0 := Tryd.underlying0
  a0 := Tryd.isAgg0
  z0 := Tryd.sizeOf0
  v0 := Tryd.zeroValue0
  t3 := Tryd.underlying3
  a3 := Tryd.isAgg3
  z3 := Tryd.sizeOf3
  v3 := Tryd.zeroValue3
  t37 := Tryd.underlying27
  a37 := Tryd.isAgg27
  z37 := Tryd.sizeOf27
  v37 := Tryd.zeroValue27
  t91 := Tryd.underlying41
  a91 := Tryd.isAgg41
  z91 := Tryd.sizeOf41
  v91 := Tryd.zeroValue41
  t93 := Tryd.underlying43
  a93 := Tryd.isAgg43
  z93 := Tryd.sizeOf43
  v93 := Tryd.zeroValue43
  t130 := Tryd.underlying46
  a130 := Tryd.isAgg46
  z130 := Tryd.sizeOf46
  v130 := Tryd.zeroValue46
  t5 := Tryd.underlying5
  a5 := Tryd.isAgg5
  z5 := Tryd.sizeOf5
  v5 := Tryd.zeroValue5
  i0 := by kernel_rfl
  i3 := by kernel_rfl
  i5 := by kernel_rfl
  i37 := by kernel_rfl
  i91 := by kernel_rfl
  i93 := by kernel_rfl
  i130 := by kernel_rfl }
open Go.RowKit in
/-- (*bytes.Buffer).Reset: "Reset resets the buffer to be empty, but it retains the underlying storage for use by future writes." (LAID: no walk: one application.) -/
theorem Tryd.Buffer_Reset_kept (B b : Nat) (bs : List Value) (w : World) (h : Lib.IsBuffer 43 5 B b bs w) :
    Calls Tryd.prog 64 #[.pointer (some ⟨b, 0, none⟩)] w fun e w' => e = .returned (.tuple #[]) ∧ Lib.IsBuffer 43 5 B b [] w' ∧ Below B w w' ∧ Lib.OthersKept 5 (some b) w w' := Any.Buffer_Reset_kept Tryd.laysM184 B b bs w h
open Go.RowKit in
/-- (*bytes.Buffer).Write: "Write appends the contents of p to the buffer, growing the buffer as needed. The return value n is the length of p; err is always nil." (LAID: no walk: one application.) -/
theorem Tryd.Buffer_Write_kept (B b : Nat) (bs cs : List Value) (a : Addr) (n c : Nat) (w : World) (h : Lib.IsBuffer 43 5 B b bs w) (hBw : B ≤ w.heap.size) (h1 : ∀ v ∈ bs, v.oneCell' = true) (hn : cs.length = n) (haB : a.block < B) (hsrc : ∀ j v, cs[j]? = some v → w.cell? (a.add j) = some v) (h1c : ∀ v ∈ cs, v.oneCell' = true) (hlim : bs.length + n ≤ 140737488355328) :
    Calls Tryd.prog 66 #[.pointer (some ⟨b, 0, none⟩), .slice (some a) n c] w fun e w' => e = .returned (.tuple #[.int .i64 n, .nilIface]) ∧ Lib.IsBuffer 43 5 B b (bs ++ cs) w' ∧ Below B w w' ∧ Lib.OthersKept 5 (some b) w w' := Any.Buffer_Write_kept Tryd.laysM180 B b bs cs a n c w h hBw h1 hn haB hsrc h1c hlim
open Go.RowKit in
theorem Tryd.Buffer_Write_k (B b : Nat) (bs cs : List Value) (a : Addr) (n c : Nat) (w : World) (h : Lib.IsBuffer 43 5 B b bs w) (hBw : B ≤ w.heap.size) (h1 : ∀ v ∈ bs, v.oneCell' = true) (hn : cs.length = n) (haB : a.block < B) (hsrc : ∀ j v, cs[j]? = some v → w.cell? (a.add j) = some v) (h1c : ∀ v ∈ cs, v.oneCell' = true) (hlim : bs.length + n ≤ 140737488355328) :
    Calls Tryd.prog 66 #[.pointer (some ⟨b, 0, none⟩), .slice (some a) n c] w fun e w' => e = .returned (.tuple #[.int .i64 n, .nilIface]) ∧ Lib.IsBuffer 43 5 B b (bs ++ cs) w' ∧ Below B w w' ∧ Lib.OthersKept 5 (some b) w w' := Any.Buffer_Write_k Tryd.laysM180 B b bs cs a n c w h hBw h1 hn haB hsrc h1c hlim
open Go.RowKit in
theorem Tryd.Buffer_Reset_k (B b : Nat) (bs : List Value) (w : World) (h : Lib.IsBuffer 43 5 B b bs w) :
    Calls Tryd.prog 64 #[.pointer (some ⟨b, 0, none⟩)] w fun e w' => e = .returned (.tuple #[]) ∧ Lib.IsBuffer 43 5 B b [] w' ∧ Below B w w' ∧ Lib.OthersKept 5 (some b) w w' := Any.Buffer_Reset_k Tryd.laysM184 B b bs w h
open Go.RowKit in
/-- grow, WHERE THE BUFFER HOLDS A ROW, NO BYTE IN IT (behind a Reset), AND THE ROW HAS NO ROOM: growSlice. (THE TEXT OF 'Buffer_grow_row' WITH 0 FOR l, BY PROGRAM: the walk parts on 'm == 0' and writes 0 for l throughout the goal: facts that still say l then do not strike: so l is laid in ahead of the walk.) (LAID: no walk: one application.) -/
theorem Tryd.Buffer_grow_row0_own (B b g cap n : Nat) (lr : Int) (cur : Array Value) (bs : List Value) (w : World) (hB : B ≤ b) (hBw : B ≤ w.heap.size) (hbk : w.heap[b]? = some (.cells #[.slice (some ⟨g, 0, none⟩) 0 cap, .int .i64 0, .int .i8 lr] 43 (0, 0))) (hl : bs.length = 0) (hBg : B ≤ g) (hg : w.heap[g]? = some (.cells cur 5 (0, 0))) (hlc : 0 ≤ cap) (hcm : cap ≤ maxLen) (hcs : cur.size = cap) (htake : cur.toList.take 0 = bs) (hgb : g ≠ b) (h1 : ∀ v ∈ bs, v.oneCell' = true) (hn : 1 ≤ n) (hroom : cap - 0 < n) (hlim : 0 + n ≤ 140737488355328) :
    Calls Tryd.prog 69 #[.pointer (some ⟨b, 0, none⟩), .int .i64 n] w fun e w' => e = .returned (.int .i64 0) ∧ ∃ xs, xs.length = n ∧ Lib.IsBuffer 43 5 B b (bs ++ xs) w' ∧ Below B w w' ∧ Lib.OthersKept 5 (some b) w w' ∧ w.grownBy w' (some b) := Any.Buffer_grow_row0_own Tryd.laysM252 B b g cap n lr cur bs w hB hBw hbk hl hBg hg hlc hcm hcs htake hgb h1 hn hroom hlim
open Go.RowKit in
/-- grow, WHERE THE BUFFER HOLDS A ROW THAT HAS NO ROOM: growSlice. (LAID: no walk: one application.) -/
theorem Tryd.Buffer_grow_row_own (B b g l cap n : Nat) (lr : Int) (cur : Array Value) (bs : List Value) (w : World) (hB : B ≤ b) (hBw : B ≤ w.heap.size) (hbk : w.heap[b]? = some (.cells #[.slice (some ⟨g, 0, none⟩) l cap, .int .i64 0, .int .i8 lr] 43 (0, 0))) (hl : bs.length = l) (hBg : B ≤ g) (hg : w.heap[g]? = some (.cells cur 5 (0, 0))) (hlc : l ≤ cap) (hcm : cap ≤ maxLen) (hcs : cur.size = cap) (htake : cur.toList.take l = bs) (hgb : g ≠ b) (h1 : ∀ v ∈ bs, v.oneCell' = true) (hn : 1 ≤ n) (hroom : cap - l < n) (hlim : l + n ≤ 140737488355328) :
    Calls Tryd.prog 69 #[.pointer (some ⟨b, 0, none⟩), .int .i64 n] w fun e w' => e = .returned (.int .i64 l) ∧ ∃ xs, xs.length = n ∧ Lib.IsBuffer 43 5 B b (bs ++ xs) w' ∧ Below B w w' ∧ Lib.OthersKept 5 (some b) w w' ∧ w.grownBy w' (some b) := Any.Buffer_grow_row_own Tryd.laysM252 B b g l cap n lr cur bs w hB hBw hbk hl hBg hg hlc hcm hcs htake hgb h1 hn hroom hlim
open Go.RowKit in
/-- grow, 'buf' nil, n AT MOST 64: 'b.buf = make([]byte, n, smallBufferSize)'. (LAID: no walk: one application.) -/
theorem Tryd.Buffer_grow_nil_small_own (B b n : Nat) (lr : Int) (w : World) (hB : B ≤ b) (hBw : B ≤ w.heap.size) (hbk : w.heap[b]? = some (.cells #[.slice none 0 0, .int .i64 0, .int .i8 lr] 43 (0, 0))) (hn : 1 ≤ n) (h64 : n ≤ 64) :
    Calls Tryd.prog 69 #[.pointer (some ⟨b, 0, none⟩), .int .i64 n] w fun e w' => e = .returned (.int .i64 0) ∧ ∃ xs, xs.length = n ∧ Lib.IsBuffer 43 5 B b xs w' ∧ Below B w w' ∧ Lib.OthersKept 5 (some b) w w' ∧ w.grownBy w' (some b) := Any.Buffer_grow_nil_small_own Tryd.laysM252 B b n lr w hB hBw hbk hn h64
open Go.RowKit in
/-- grow, 'buf' nil, n ABOVE 64: growSlice of the nil slice. (LAID: no walk: one application.) -/
theorem Tryd.Buffer_grow_nil_big_own (B b n : Nat) (lr : Int) (w : World) (hB : B ≤ b) (hBw : B ≤ w.heap.size) (hbk : w.heap[b]? = some (.cells #[.slice none 0 0, .int .i64 0, .int .i8 lr] 43 (0, 0))) (h64 : 64 < n) (hlim : n ≤ 140737488355328) :
    Calls Tryd.prog 69 #[.pointer (some ⟨b, 0, none⟩), .int .i64 n] w fun e w' => e = .returned (.int .i64 0) ∧ ∃ xs, xs.length = n ∧ Lib.IsBuffer 43 5 B b xs w' ∧ Below B w w' ∧ Lib.OthersKept 5 (some b) w w' ∧ w.grownBy w' (some b) := Any.Buffer_grow_nil_big_own Tryd.laysM252 B b n lr w hB hBw hbk h64 hlim
open Go.RowKit in
/-- tryGrowByReslice: EITHER there is room: the place to write at is the old length, and the buffer holds the old bytes and n more of whatever lay there; OR there is none: nothing turns, and 'Lib.NoRoom' is what grow asks. (LAID: no walk: one application.) -/
theorem Tryd.Buffer_tryGrow_own (B b n : Nat) (bs : List Value) (w : World) (h : Lib.IsBuffer 43 5 B b bs w) :
    Calls Tryd.prog 68 #[.pointer (some ⟨b, 0, none⟩), .int .i64 n] w fun e w' =>
      (e = .returned (.tuple #[.int .i64 bs.length, .bool true]) ∧ ∃ xs, xs.length = n ∧ Lib.IsBuffer 43 5 B b (bs ++ xs) w' ∧ Below B w w' ∧ Lib.OthersKept 5 (some b) w w' ∧ w.grownBy w' (some b)) ∨
      (e = .returned (.tuple #[.int .i64 0, .bool false]) ∧ w' = w ∧ Lib.NoRoom b n w) := Any.Buffer_tryGrow_own Tryd.laysM251 B b n bs w h
open Go.RowKit in
/-- (*bytes.Buffer).grow: "grow grows the buffer to guarantee space for n more bytes. It returns the index where bytes should be written.": WHERE THERE IS NO ROOM; UNDER Go's OWN LIMIT (the new length takes at most 2^47 bytes): the old length; the buffer holds the old bytes and n more of whatever. (LAID: no walk: one application.) -/
theorem Tryd.Buffer_grow_own (B b n : Nat) (bs : List Value) (w : World) (h : Lib.IsBuffer 43 5 B b bs w) (hnr : Lib.NoRoom b n w) (hBw : B ≤ w.heap.size) (h1 : ∀ v ∈ bs, v.oneCell' = true) (hlim : bs.length + n ≤ 140737488355328) :
    Calls Tryd.prog 69 #[.pointer (some ⟨b, 0, none⟩), .int .i64 n] w fun e w' => e = .returned (.int .i64 bs.length) ∧ ∃ xs, xs.length = n ∧ Lib.IsBuffer 43 5 B b (bs ++ xs) w' ∧ Below B w w' ∧ Lib.OthersKept 5 (some b) w w' ∧ w.grownBy w' (some b) := Any.Buffer_grow_own Tryd.laysM252 B b n bs w h hnr hBw h1 hlim
open Go.RowKit in
/-- (*bytes.Buffer).Write: "Write appends the contents of p to the buffer, growing the buffer as needed. The return value n is the length of p; err is always nil." (LAID: no walk: one application.) -/
theorem Tryd.Buffer_Write_any (B b : Nat) (bs cs : List Value) (a : Addr) (n c : Nat) (w : World) (h : Lib.IsBuffer 43 5 B b bs w) (hBw : B ≤ w.heap.size) (h1 : ∀ v ∈ bs, v.oneCell' = true) (hn : cs.length = n) (hab : a.block ≠ b) (hsrc : ∀ j v, cs[j]? = some v → w.cell? (a.add j) = some v) (h1c : ∀ v ∈ cs, v.oneCell' = true) (hlim : bs.length + n ≤ 140737488355328) :
    Calls Tryd.prog 66 #[.pointer (some ⟨b, 0, none⟩), .slice (some a) n c] w fun e w' => e = .returned (.tuple #[.int .i64 n, .nilIface]) ∧ Lib.IsBuffer 43 5 B b (bs ++ cs) w' ∧ Below B w w' ∧ Lib.OthersKept 5 (some b) w w' := Any.Buffer_Write_any Tryd.laysM180 B b bs cs a n c w h hBw h1 hn hab hsrc h1c hlim
open Go.RowKit in
/-- (*bytes.Buffer).Len: "Len returns the number of bytes of the unread portion of the buffer; b.Len() == len(b.Bytes()).": the world is as it was but for the count of draws (the statement has two reads: its order is drawn). (LAID: no walk: one application.) -/
theorem Tryd.Buffer_Len_at (T : TypeId) (R : Nat → Option Value) (B b q : Nat) (bs : List Value) (w : World) (h : LibA.IsBuffer T R 5 B b q bs w) :
    Calls Tryd.prog 70 #[.pointer (some ⟨b, q, none⟩)] w fun e w' => e = .returned (.int .i64 bs.length) ∧ ∃ n, w' = w.drewN n := Any.Buffer_Len_at Tryd.laysM181 T R B b q bs w h
open Go.RowKit in
/-- (*bytes.Buffer).tryGrowByReslice: "tryGrowByReslice is an inlineable version of grow for the fast-case where the internal buffer only needs to be resliced. It returns the index where bytes should be written and whether it succeeded.": THERE IS ROOM: 'buf' is resliced to l + n. (LAID: no walk: one application.) -/
theorem Tryd.Buffer_tryGrow_room_at (b q : Nat) (ao : Option Addr) (l cap n : Nat) (w : World) (c0 : w.cell? ⟨b, q, none⟩ = some (.slice ao l cap)) (f0 : w.frozen? ⟨b, q, none⟩ = false) (hlc : l ≤ cap) (hcap : cap ≤ maxLen) (hn : n ≤ cap - l) :
    Calls Tryd.prog 68 #[.pointer (some ⟨b, q, none⟩), .int .i64 n] w fun e w' => e = .returned (.tuple #[.int .i64 l, .bool true]) ∧ w' = w.setCell ⟨b, q, none⟩ (.slice ao (l + n) cap) := Any.Buffer_tryGrow_room_at Tryd.laysM251 b q ao l cap n w c0 f0 hlc hcap hn
open Go.RowKit in
/-- .. THERE IS NONE: nothing turns. (LAID: no walk: one application.) -/
theorem Tryd.Buffer_tryGrow_none_at (b q : Nat) (ao : Option Addr) (l cap n : Nat) (w : World) (c0 : w.cell? ⟨b, q, none⟩ = some (.slice ao l cap)) (hlc : l ≤ cap) (hcap : cap ≤ maxLen) (hn : cap - l < n) :
    Calls Tryd.prog 68 #[.pointer (some ⟨b, q, none⟩), .int .i64 n] w fun e w' => e = .returned (.tuple #[.int .i64 0, .bool false]) ∧ w' = w := Any.Buffer_tryGrow_none_at Tryd.laysM251 b q ao l cap n w c0 hlc hcap hn
open Go.RowKit in
/-- grow, WHERE THE BUFFER HOLDS A ROW, NO BYTE IN IT (behind a Reset), AND THE ROW HAS NO ROOM: growSlice. (THE TEXT OF 'Buffer_grow_row' WITH 0 FOR l, BY PROGRAM: the walk parts on 'm == 0' and writes 0 for l throughout the goal: facts that still say l then do not strike: so l is laid in ahead of the walk.) (LAID: no walk: one application.) -/
theorem Tryd.Buffer_grow_row0_at (T : TypeId) (R : Nat → Option Value) (B b q g cap n : Nat) (lr : Int) (cur : Array Value) (bs : List Value) (w : World) (hB : B ≤ b) (hBw : B ≤ w.heap.size) (hbk : LibA.Three w b q T R (.slice (some ⟨g, 0, none⟩) 0 cap) (.int .i64 0) (.int .i8 lr)) (hl : bs.length = 0) (hBg : B ≤ g) (hg : w.heap[g]? = some (.cells cur 5 (0, 0))) (hlc : 0 ≤ cap) (hcm : cap ≤ maxLen) (hcs : cur.size = cap) (htake : cur.toList.take 0 = bs) (hgb : g ≠ b) (h1 : ∀ v ∈ bs, v.oneCell' = true) (hn : 1 ≤ n) (hroom : cap - 0 < n) (hlim : 0 + n ≤ 140737488355328) :
    Calls Tryd.prog 69 #[.pointer (some ⟨b, q, none⟩), .int .i64 n] w fun e w' => e = .returned (.int .i64 0) ∧ ∃ xs, xs.length = n ∧ LibA.IsBuffer T R 5 B b q (bs ++ xs) w' ∧ Below B w w' ∧ Lib.OthersKept 5 (some b) w w' ∧ w.grownBy w' (some b) := Any.Buffer_grow_row0_at Tryd.laysM252 T R B b q g cap n lr cur bs w hB hBw hbk hl hBg hg hlc hcm hcs htake hgb h1 hn hroom hlim
open Go.RowKit in
/-- grow, WHERE THE BUFFER HOLDS A ROW THAT HAS NO ROOM: growSlice. (LAID: no walk: one application.) -/
theorem Tryd.Buffer_grow_row_at (T : TypeId) (R : Nat → Option Value) (B b q g l cap n : Nat) (lr : Int) (cur : Array Value) (bs : List Value) (w : World) (hB : B ≤ b) (hBw : B ≤ w.heap.size) (hbk : LibA.Three w b q T R (.slice (some ⟨g, 0, none⟩) l cap) (.int .i64 0) (.int .i8 lr)) (hl : bs.length = l) (hBg : B ≤ g) (hg : w.heap[g]? = some (.cells cur 5 (0, 0))) (hlc : l ≤ cap) (hcm : cap ≤ maxLen) (hcs : cur.size = cap) (htake : cur.toList.take l = bs) (hgb : g ≠ b) (h1 : ∀ v ∈ bs, v.oneCell' = true) (hn : 1 ≤ n) (hroom : cap - l < n) (hlim : l + n ≤ 140737488355328) :
    Calls Tryd.prog 69 #[.pointer (some ⟨b, q, none⟩), .int .i64 n] w fun e w' => e = .returned (.int .i64 l) ∧ ∃ xs, xs.length = n ∧ LibA.IsBuffer T R 5 B b q (bs ++ xs) w' ∧ Below B w w' ∧ Lib.OthersKept 5 (some b) w w' ∧ w.grownBy w' (some b) := Any.Buffer_grow_row_at Tryd.laysM252 T R B b q g l cap n lr cur bs w hB hBw hbk hl hBg hg hlc hcm hcs htake hgb h1 hn hroom hlim
def Tryd.lays315_ren : Go.Shelf.Ren := ⟨fun | 315 => 40 | n => n, fun | 9 => 9 | 40 => 71 | 4 => 4 | 3 => 3 | 0 => 0 | 21 => 21 | n => n, fun | n => n⟩
theorem Tryd.lays315 : Go.Proofs.Lays.n315 Tryd.prog Tryd.lays315_ren := {
  mixed := by kernel_rfl
  f315 := Tryd.func40.trans (congrArg some (by kernel_rfl))
  t0 := Tryd.underlying0
  a0 := Tryd.isAgg0
  z0 := Tryd.sizeOf0
  v0 := Tryd.zeroValue0
  t3 := Tryd.underlying3
  a3 := Tryd.isAgg3
  z3 := Tryd.sizeOf3
  v3 := Tryd.zeroValue3
  t4 := Tryd.underlying4
  a4 := Tryd.isAgg4
  z4 := Tryd.sizeOf4
  v4 := Tryd.zeroValue4
  t9 := Tryd.underlying9
  a9 := Tryd.isAgg9
  z9 := Tryd.sizeOf9
  v9 := Tryd.zeroValue9
  t21 := Tryd.underlying21
  a21 := Tryd.isAgg21
  z21 := Tryd.sizeOf21
  v21 := Tryd.zeroValue21
  t40 := Tryd.underlying71
  a40 := Tryd.isAgg71
  z40 := Tryd.sizeOf71
  v40 := Tryd.zeroValue71 }
open Go.RowKit Go.Lib in
theorem Tryd.strings_indexFunc (g : Nat) (lb : Array Value) (eg : ∀ args w, (callFunc g args).run Tryd.prog w = .ok (.enter g args) w) (p : Nat → Bool) (truth : Bool) (s : ByteArray) (w : World) (hp : PredAt Tryd.prog g lb encR p w) :
    Calls Tryd.prog 40 #[.string s, .func (.func g) #[] lb, .bool truth] w fun e w' => e = .returned (.int .i64 (Lib.idxFunc p truth s)) ∧ Below w.heap.size w w' := Any.strings_indexFunc Tryd.lays315 g lb eg p truth s w hp
open Go.RowKit in
/-- grow, 'buf' nil, n AT MOST 64: 'b.buf = make([]byte, n, smallBufferSize)'. (LAID: no walk: one application.) -/
theorem Tryd.Buffer_grow_nil_small_at (T : TypeId) (R : Nat → Option Value) (B b q n : Nat) (lr : Int) (w : World) (hB : B ≤ b) (hBw : B ≤ w.heap.size) (hbk : LibA.Three w b q T R (.slice none 0 0) (.int .i64 0) (.int .i8 lr)) (hn : 1 ≤ n) (h64 : n ≤ 64) :
    Calls Tryd.prog 69 #[.pointer (some ⟨b, q, none⟩), .int .i64 n] w fun e w' => e = .returned (.int .i64 0) ∧ ∃ xs, xs.length = n ∧ LibA.IsBuffer T R 5 B b q xs w' ∧ Below B w w' ∧ Lib.OthersKept 5 (some b) w w' ∧ w.grownBy w' (some b) := Any.Buffer_grow_nil_small_at Tryd.laysM252 T R B b q n lr w hB hBw hbk hn h64
open Go.RowKit in
/-- grow, 'buf' nil, n ABOVE 64: growSlice of the nil slice. (LAID: no walk: one application.) -/
theorem Tryd.Buffer_grow_nil_big_at (T : TypeId) (R : Nat → Option Value) (B b q n : Nat) (lr : Int) (w : World) (hB : B ≤ b) (hBw : B ≤ w.heap.size) (hbk : LibA.Three w b q T R (.slice none 0 0) (.int .i64 0) (.int .i8 lr)) (h64 : 64 < n) (hlim : n ≤ 140737488355328) :
    Calls Tryd.prog 69 #[.pointer (some ⟨b, q, none⟩), .int .i64 n] w fun e w' => e = .returned (.int .i64 0) ∧ ∃ xs, xs.length = n ∧ LibA.IsBuffer T R 5 B b q xs w' ∧ Below B w w' ∧ Lib.OthersKept 5 (some b) w w' ∧ w.grownBy w' (some b) := Any.Buffer_grow_nil_big_at Tryd.laysM252 T R B b q n lr w hB hBw hbk h64 hlim
def Tryd.lays273_ren : Go.Shelf.Ren := ⟨fun | 273 => 38 | 271 => 43 | 120 => 45 | 197 => 39 | 260 => 44 | n => n, fun | 9 => 9 | 40 => 71 | 4 => 4 | 3 => 3 | 105 => 79 | 21 => 21 | 5 => 5 | 119 => 72 | 0 => 0 | 46 => 93 | 139 => 98 | 138 => 97 | n => n, fun | 3 => 6 | 4 => 7 | n => n⟩
theorem Tryd.lays273 : Go.Proofs.Lays.n273 Tryd.prog Tryd.lays273_ren := {
  mixed := by kernel_rfl
  f120 := Tryd.func45.trans (congrArg some (by kernel_rfl))
  f197 := Tryd.func39.trans (congrArg some (by kernel_rfl))
  f260 := Tryd.func44.trans (congrArg some (by kernel_rfl))
  f271 := Tryd.func43.trans (congrArg some (by kernel_rfl))
  f273 := Tryd.func38.trans (congrArg some (by kernel_rfl))
  t0 := Tryd.underlying0
  a0 := Tryd.isAgg0
  z0 := Tryd.sizeOf0
  v0 := Tryd.zeroValue0
  t3 := Tryd.underlying3
  a3 := Tryd.isAgg3
  z3 := Tryd.sizeOf3
  v3 := Tryd.zeroValue3
  t4 := Tryd.underlying4
  a4 := Tryd.isAgg4
  z4 := Tryd.sizeOf4
  v4 := Tryd.zeroValue4
  t5 := Tryd.underlying5
  a5 := Tryd.isAgg5
  z5 := Tryd.sizeOf5
  v5 := Tryd.zeroValue5
  t9 := Tryd.underlying9
  a9 := Tryd.isAgg9
  z9 := Tryd.sizeOf9
  v9 := Tryd.zeroValue9
  t21 := Tryd.underlying21
  a21 := Tryd.isAgg21
  z21 := Tryd.sizeOf21
  v21 := Tryd.zeroValue21
  t40 := Tryd.underlying71
  a40 := Tryd.isAgg71
  z40 := Tryd.sizeOf71
  v40 := Tryd.zeroValue71
  t46 := Tryd.underlying93
  a46 := Tryd.isAgg93
  z46 := Tryd.sizeOf93
  v46 := Tryd.zeroValue93
  t105 := Tryd.underlying79
  a105 := Tryd.isAgg79
  z105 := Tryd.sizeOf79
  v105 := Tryd.zeroValue79
  t119 := Tryd.underlying72
  a119 := Tryd.isAgg72
  z119 := Tryd.sizeOf72
  t138 := Tryd.underlying97
  a138 := Tryd.isAgg97
  z138 := Tryd.sizeOf97
  v138 := Tryd.zeroValue97
  t139 := Tryd.underlying98
  a139 := Tryd.isAgg98
  z139 := Tryd.sizeOf98
  v139 := Tryd.zeroValue98
  g3 := by kernel_rfl
  g4 := by kernel_rfl }
open Go.RowKit Go.Lib in
theorem Tryd.strings_lastIndexFunc (g : Nat) (lb : Array Value) (eg : ∀ args w, (callFunc g args).run Tryd.prog w = .ok (.enter g args) w) (p : Nat → Bool) (truth : Bool) (s : ByteArray) (w : World) (hs : s.size ≤ 9223372036854775807) (hT : Lib.Utf8Tabs 6 7 w) (hp : PredAt Tryd.prog g lb encR p w) :
    Calls Tryd.prog 38 #[.string s, .func (.func g) #[] lb, .bool truth] w fun e w' => e = .returned (.int .i64 (Lib.lastIdxFunc p truth s)) ∧ Below w.heap.size w w' := Any.strings_lastIndexFunc Tryd.lays273 g lb eg p truth s w hs hT hp
def Tryd.lays272_ren : Go.Shelf.Ren := ⟨fun | 272 => 36 | 315 => 40 | n => n, fun | 9 => 9 | 40 => 71 | 4 => 4 | 3 => 3 | 0 => 0 | 21 => 21 | n => n, fun | n => n⟩
theorem Tryd.lays272 : Go.Proofs.Lays.n272 Tryd.prog Tryd.lays272_ren := {
  mixed := by kernel_rfl
  f272 := Tryd.func36.trans (congrArg some (by kernel_rfl))
  f315 := Tryd.func40.trans (congrArg some (by kernel_rfl))
  t0 := Tryd.underlying0
  a0 := Tryd.isAgg0
  z0 := Tryd.sizeOf0
  v0 := Tryd.zeroValue0
  t3 := Tryd.underlying3
  a3 := Tryd.isAgg3
  z3 := Tryd.sizeOf3
  v3 := Tryd.zeroValue3
  t4 := Tryd.underlying4
  a4 := Tryd.isAgg4
  z4 := Tryd.sizeOf4
  v4 := Tryd.zeroValue4
  t9 := Tryd.underlying9
  a9 := Tryd.isAgg9
  z9 := Tryd.sizeOf9
  v9 := Tryd.zeroValue9
  t21 := Tryd.underlying21
  a21 := Tryd.isAgg21
  z21 := Tryd.sizeOf21
  v21 := Tryd.zeroValue21
  t40 := Tryd.underlying71
  a40 := Tryd.isAgg71
  z40 := Tryd.sizeOf71
  v40 := Tryd.zeroValue71 }
open Go.RowKit Go.Lib in
theorem Tryd.strings_TrimLeftFunc (g : Nat) (lb : Array Value) (eg : ∀ args w, (callFunc g args).run Tryd.prog w = .ok (.enter g args) w) (p : Nat → Bool) (s : ByteArray) (w : World) (hp : PredAt Tryd.prog g lb encR p w) :
    Calls Tryd.prog 36 #[.string s, .func (.func g) #[] lb] w fun e w' => e = .returned (.string (Lib.trimLeftF p s)) ∧ Below w.heap.size w w' := Any.strings_TrimLeftFunc Tryd.lays272 g lb eg p s w hp
def Tryd.lays238_ren : Go.Shelf.Ren := ⟨fun | 238 => 34 | 273 => 38 | 197 => 39 | 271 => 43 | 260 => 44 | 120 => 45 | n => n, fun | 9 => 9 | 40 => 71 | 4 => 4 | 3 => 3 | 105 => 79 | 21 => 21 | 5 => 5 | 119 => 72 | 0 => 0 | 46 => 93 | 139 => 98 | 138 => 97 | n => n, fun | 3 => 6 | 4 => 7 | n => n⟩
theorem Tryd.lays238 : Go.Proofs.Lays.n238 Tryd.prog Tryd.lays238_ren := {
  mixed := by kernel_rfl
  f120 := Tryd.func45.trans (congrArg some (by kernel_rfl))
  f197 := Tryd.func39.trans (congrArg some (by kernel_rfl))
  f238 := Tryd.func34.trans (congrArg some (by kernel_rfl))
  f260 := Tryd.func44.trans (congrArg some (by kernel_rfl))
  f271 := Tryd.func43.trans (congrArg some (by kernel_rfl))
  f273 := Tryd.func38.trans (congrArg some (by kernel_rfl))
  t0 := Tryd.underlying0
  a0 := Tryd.isAgg0
  z0 := Tryd.sizeOf0
  v0 := Tryd.zeroValue0
  t3 := Tryd.underlying3
  a3 := Tryd.isAgg3
  z3 := Tryd.sizeOf3
  v3 := Tryd.zeroValue3
  t4 := Tryd.underlying4
  a4 := Tryd.isAgg4
  z4 := Tryd.sizeOf4
  v4 := Tryd.zeroValue4
  t5 := Tryd.underlying5
  a5 := Tryd.isAgg5
  z5 := Tryd.sizeOf5
  v5 := Tryd.zeroValue5
  t9 := Tryd.underlying9
  a9 := Tryd.isAgg9
  z9 := Tryd.sizeOf9
  v9 := Tryd.zeroValue9
  t21 := Tryd.underlying21
  a21 := Tryd.isAgg21
  z21 := Tryd.sizeOf21
  v21 := Tryd.zeroValue21
  t40 := Tryd.underlying71
  a40 := Tryd.isAgg71
  z40 := Tryd.sizeOf71
  v40 := Tryd.zeroValue71
  t46 := Tryd.underlying93
  a46 := Tryd.isAgg93
  z46 := Tryd.sizeOf93
  v46 := Tryd.zeroValue93
  t105 := Tryd.underlying79
  a105 := Tryd.isAgg79
  z105 := Tryd.sizeOf79
  v105 := Tryd.zeroValue79
  t119 := Tryd.underlying72
  a119 := Tryd.isAgg72
  z119 := Tryd.sizeOf72
  t138 := Tryd.underlying97
  a138 := Tryd.isAgg97
  z138 := Tryd.sizeOf97
  v138 := Tryd.zeroValue97
  t139 := Tryd.underlying98
  a139 := Tryd.isAgg98
  z139 := Tryd.sizeOf98
  v139 := Tryd.zeroValue98
  g3 := by kernel_rfl
  g4 := by kernel_rfl }
open Go.RowKit Go.Lib in
theorem Tryd.strings_TrimRightFunc (g : Nat) (lb : Array Value) (eg : ∀ args w, (callFunc g args).run Tryd.prog w = .ok (.enter g args) w) (p : Nat → Bool) (s : ByteArray) (w : World) (hs : s.size ≤ 9223372036854775807) (hT : Lib.Utf8Tabs 6 7 w) (hp : PredAt Tryd.prog g lb encR p w) :
    Calls Tryd.prog 34 #[.string s, .func (.func g) #[] lb] w fun e w' => e = .returned (.string (Lib.trimRightF p s)) ∧ Below w.heap.size w w' := Any.strings_TrimRightFunc Tryd.lays238 g lb eg p s w hs hT hp
def Tryd.lays237_ren : Go.Shelf.Ren := ⟨fun | 237 => 32 | 272 => 36 | 238 => 34 | 315 => 40 | 273 => 38 | 197 => 39 | 271 => 43 | 260 => 44 | 120 => 45 | n => n, fun | 9 => 9 | 40 => 71 | 4 => 4 | 3 => 3 | 105 => 79 | 21 => 21 | 0 => 0 | 5 => 5 | 119 => 72 | 46 => 93 | 139 => 98 | 138 => 97 | n => n, fun | 3 => 6 | 4 => 7 | n => n⟩
theorem Tryd.lays237 : Go.Proofs.Lays.n237 Tryd.prog Tryd.lays237_ren := {
  mixed := by kernel_rfl
  f120 := Tryd.func45.trans (congrArg some (by kernel_rfl))
  f197 := Tryd.func39.trans (congrArg some (by kernel_rfl))
  f237 := Tryd.func32.trans (congrArg some (by kernel_rfl))
  f238 := Tryd.func34.trans (congrArg some (by kernel_rfl))
  f260 := Tryd.func44.trans (congrArg some (by kernel_rfl))
  f271 := Tryd.func43.trans (congrArg some (by kernel_rfl))
  f272 := Tryd.func36.trans (congrArg some (by kernel_rfl))
  f273 := Tryd.func38.trans (congrArg some (by kernel_rfl))
  f315 := Tryd.func40.trans (congrArg some (by kernel_rfl))
  t0 := Tryd.underlying0
  a0 := Tryd.isAgg0
  z0 := Tryd.sizeOf0
  v0 := Tryd.zeroValue0
  t3 := Tryd.underlying3
  a3 := Tryd.isAgg3
  z3 := Tryd.sizeOf3
  v3 := Tryd.zeroValue3
  t4 := Tryd.underlying4
  a4 := Tryd.isAgg4
  z4 := Tryd.sizeOf4
  v4 := Tryd.zeroValue4
  t5 := Tryd.underlying5
  a5 := Tryd.isAgg5
  z5 := Tryd.sizeOf5
  v5 := Tryd.zeroValue5
  t9 := Tryd.underlying9
  a9 := Tryd.isAgg9
  z9 := Tryd.sizeOf9
  v9 := Tryd.zeroValue9
  t21 := Tryd.underlying21
  a21 := Tryd.isAgg21
  z21 := Tryd.sizeOf21
  v21 := Tryd.zeroValue21
  t40 := Tryd.underlying71
  a40 := Tryd.isAgg71
  z40 := Tryd.sizeOf71
  v40 := Tryd.zeroValue71
  t46 := Tryd.underlying93
  a46 := Tryd.isAgg93
  z46 := Tryd.sizeOf93
  v46 := Tryd.zeroValue93
  t105 := Tryd.underlying79
  a105 := Tryd.isAgg79
  z105 := Tryd.sizeOf79
  v105 := Tryd.zeroValue79
  t119 := Tryd.underlying72
  a119 := Tryd.isAgg72
  z119 := Tryd.sizeOf72
  t138 := Tryd.underlying97
  a138 := Tryd.isAgg97
  z138 := Tryd.sizeOf97
  v138 := Tryd.zeroValue97
  t139 := Tryd.underlying98
  a139 := Tryd.isAgg98
  z139 := Tryd.sizeOf98
  v139 := Tryd.zeroValue98
  g3 := by kernel_rfl
  g4 := by kernel_rfl }
open Go.RowKit Go.Lib in
/-- **strings.TrimFunc(s, f) AT EVERY STRING, AT WHATEVER FUNCTION VALUE.** (LAID: no walk: one application.) -/
theorem Tryd.strings_TrimFunc (g : Nat) (lb : Array Value) (eg : ∀ args w, (callFunc g args).run Tryd.prog w = .ok (.enter g args) w) (p : Nat → Bool) (s : ByteArray) (w : World) (hs : s.size ≤ 9223372036854775807) (hT : Lib.Utf8Tabs 6 7 w) (hp : PredAt Tryd.prog g lb encR p w) :
    Calls Tryd.prog 32 #[.string s, .func (.func g) #[] lb] w fun e w' => e = .returned (.string (Lib.trimF p s)) ∧ Below w.heap.size w w' := Any.strings_TrimFunc Tryd.lays237 g lb eg p s w hs hT hp
open Go.RowKit in
/-- tryGrowByReslice: EITHER there is room: the place to write at is the old length, and the buffer holds the old bytes and n more of whatever lay there; OR there is none: nothing turns, and 'Lib.NoRoom' is what grow asks. (LAID: no walk: one application.) -/
theorem Tryd.Buffer_tryGrow_at (T : TypeId) (R : Nat → Option Value) (B b q n : Nat) (bs : List Value) (w : World) (h : LibA.IsBuffer T R 5 B b q bs w) :
    Calls Tryd.prog 68 #[.pointer (some ⟨b, q, none⟩), .int .i64 n] w fun e w' =>
      (e = .returned (.tuple #[.int .i64 bs.length, .bool true]) ∧ ∃ xs, xs.length = n ∧ LibA.IsBuffer T R 5 B b q (bs ++ xs) w' ∧ Below B w w' ∧ Lib.OthersKept 5 (some b) w w' ∧ w.grownBy w' (some b)) ∨
      (e = .returned (.tuple #[.int .i64 0, .bool false]) ∧ w' = w ∧ LibA.NoRoom b q n w) := Any.Buffer_tryGrow_at Tryd.laysM251 T R B b q n bs w h
open Go.RowKit in
/-- (*bytes.Buffer).grow: "grow grows the buffer to guarantee space for n more bytes. It returns the index where bytes should be written.": WHERE THERE IS NO ROOM; UNDER Go's OWN LIMIT (the new length takes at most 2^47 bytes): the old length; the buffer holds the old bytes and n more of whatever. (LAID: no walk: one application.) -/
theorem Tryd.Buffer_grow_at (T : TypeId) (R : Nat → Option Value) (B b q n : Nat) (bs : List Value) (w : World) (h : LibA.IsBuffer T R 5 B b q bs w) (hnr : LibA.NoRoom b q n w) (hBw : B ≤ w.heap.size) (h1 : ∀ v ∈ bs, v.oneCell' = true) (hlim : bs.length + n ≤ 140737488355328) :
    Calls Tryd.prog 69 #[.pointer (some ⟨b, q, none⟩), .int .i64 n] w fun e w' => e = .returned (.int .i64 bs.length) ∧ ∃ xs, xs.length = n ∧ LibA.IsBuffer T R 5 B b q (bs ++ xs) w' ∧ Below B w w' ∧ Lib.OthersKept 5 (some b) w w' ∧ w.grownBy w' (some b) := Any.Buffer_grow_at Tryd.laysM252 T R B b q n bs w h hnr hBw h1 hlim
open Go.RowKit Go.Lib in
theorem Tryd.strings_indexFunc_runes (g : Nat) (lb : Array Value) (eg : ∀ args w, (callFunc g args).run Tryd.prog w = .ok (.enter g args) w) (p : Nat → Bool) (truth : Bool) (s : ByteArray) (w : World) (hp : PredAtRunes Tryd.prog g lb p w) :
    Calls Tryd.prog 40 #[.string s, .func (.func g) #[] lb, .bool truth] w fun e w' => e = .returned (.int .i64 (Lib.idxFunc p truth s)) ∧ Below w.heap.size w w' := Any.strings_indexFunc_runes Tryd.lays315 g lb eg p truth s w hp
open Go.RowKit Go.Lib in
theorem Tryd.strings_lastIndexFunc_runes (g : Nat) (lb : Array Value) (eg : ∀ args w, (callFunc g args).run Tryd.prog w = .ok (.enter g args) w) (p : Nat → Bool) (truth : Bool) (s : ByteArray) (w : World) (hs : s.size ≤ 9223372036854775807) (hT : Lib.Utf8Tabs 6 7 w) (hp : PredAtRunes Tryd.prog g lb p w) :
    Calls Tryd.prog 38 #[.string s, .func (.func g) #[] lb, .bool truth] w fun e w' => e = .returned (.int .i64 (Lib.lastIdxFunc p truth s)) ∧ Below w.heap.size w w' := Any.strings_lastIndexFunc_runes Tryd.lays273 g lb eg p truth s w hs hT hp
open Go.RowKit Go.Lib in
theorem Tryd.strings_TrimLeftFunc_runes (g : Nat) (lb : Array Value) (eg : ∀ args w, (callFunc g args).run Tryd.prog w = .ok (.enter g args) w) (p : Nat → Bool) (s : ByteArray) (w : World) (hp : PredAtRunes Tryd.prog g lb p w) :
    Calls Tryd.prog 36 #[.string s, .func (.func g) #[] lb] w fun e w' => e = .returned (.string (Lib.trimLeftF p s)) ∧ Below w.heap.size w w' := Any.strings_TrimLeftFunc_runes Tryd.lays272 g lb eg p s w hp
open Go.RowKit Go.Lib in
theorem Tryd.strings_TrimRightFunc_runes (g : Nat) (lb : Array Value) (eg : ∀ args w, (callFunc g args).run Tryd.prog w = .ok (.enter g args) w) (p : Nat → Bool) (s : ByteArray) (w : World) (hs : s.size ≤ 9223372036854775807) (hT : Lib.Utf8Tabs 6 7 w) (hp : PredAtRunes Tryd.prog g lb p w) :
    Calls Tryd.prog 34 #[.string s, .func (.func g) #[] lb] w fun e w' => e = .returned (.string (Lib.trimRightF p s)) ∧ Below w.heap.size w w' := Any.strings_TrimRightFunc_runes Tryd.lays238 g lb eg p s w hs hT hp
open Go.RowKit Go.Lib in
/-- **strings.TrimFunc(s, f) AT EVERY STRING, AT WHATEVER FUNCTION VALUE.** (LAID: no walk: one application.) -/
theorem Tryd.strings_TrimFunc_runes (g : Nat) (lb : Array Value) (eg : ∀ args w, (callFunc g args).run Tryd.prog w = .ok (.enter g args) w) (p : Nat → Bool) (s : ByteArray) (w : World) (hs : s.size ≤ 9223372036854775807) (hT : Lib.Utf8Tabs 6 7 w) (hp : PredAtRunes Tryd.prog g lb p w) :
    Calls Tryd.prog 32 #[.string s, .func (.func g) #[] lb] w fun e w' => e = .returned (.string (Lib.trimF p s)) ∧ Below w.heap.size w w' := Any.strings_TrimFunc_runes Tryd.lays237 g lb eg p s w hs hT hp
open Go.RowKit in
/-- (*bytes.Buffer).Write: "Write appends the contents of p to the buffer, growing the buffer as needed. The return value n is the length of p; err is always nil." (LAID: no walk: one application.) -/
theorem Tryd.Buffer_Write_at (T : TypeId) (R : Nat → Option Value) (B b q : Nat) (bs cs : List Value) (a : Addr) (n c : Nat) (w : World) (h : LibA.IsBuffer T R 5 B b q bs w) (hBw : B ≤ w.heap.size) (h1 : ∀ v ∈ bs, v.oneCell' = true) (hn : cs.length = n) (hab : a.block ≠ b) (hsrc : ∀ j v, cs[j]? = some v → w.cell? (a.add j) = some v) (h1c : ∀ v ∈ cs, v.oneCell' = true) (hlim : bs.length + n ≤ 140737488355328) :
    Calls Tryd.prog 66 #[.pointer (some ⟨b, q, none⟩), .slice (some a) n c] w fun e w' => e = .returned (.tuple #[.int .i64 n, .nilIface]) ∧ LibA.IsBuffer T R 5 B b q (bs ++ cs) w' ∧ Below B w w' ∧ Lib.OthersKept 5 (some b) w w' := Any.Buffer_Write_at Tryd.laysM180 T R B b q bs cs a n c w h hBw h1 hn hab hsrc h1c hlim
def Tryd.lays199_ren : Go.Shelf.Ren := ⟨fun | 199 => 33 | 261 => 37 | 311 => 41 | 312 => 42 | n => n, fun | 21 => 21 | 4 => 4 | 51 => 75 | 141 => 77 | 0 => 0 | 196 => 84 | 193 => 81 | 3 => 3 | 198 => 87 | 49 => 85 | 194 => 82 | 201 => 90 | 226 => 92 | 46 => 93 | 227 => 94 | n => n, fun | 6 => 5 | n => n⟩
theorem Tryd.lays199 : Go.Proofs.Lays.n199 Tryd.prog Tryd.lays199_ren := {
  mixed := by kernel_rfl
  f199 := Tryd.func33.trans (congrArg some (by kernel_rfl))
  f261 := Tryd.func37.trans (congrArg some (by kernel_rfl))
  f311 := Tryd.func41.trans (congrArg some (by kernel_rfl))
  f312 := Tryd.func42.trans (congrArg some (by kernel_rfl))
  t0 := Tryd.underlying0
  a0 := Tryd.isAgg0
  z0 := Tryd.sizeOf0
  v0 := Tryd.zeroValue0
  t3 := Tryd.underlying3
  a3 := Tryd.isAgg3
  z3 := Tryd.sizeOf3
  v3 := Tryd.zeroValue3
  t4 := Tryd.underlying4
  a4 := Tryd.isAgg4
  z4 := Tryd.sizeOf4
  v4 := Tryd.zeroValue4
  t21 := Tryd.underlying21
  a21 := Tryd.isAgg21
  z21 := Tryd.sizeOf21
  v21 := Tryd.zeroValue21
  t46 := Tryd.underlying93
  a46 := Tryd.isAgg93
  z46 := Tryd.sizeOf93
  v46 := Tryd.zeroValue93
  t49 := Tryd.underlying85
  a49 := Tryd.isAgg85
  z49 := Tryd.sizeOf85
  v49 := Tryd.zeroValue85
  t51 := Tryd.underlying75
  a51 := Tryd.isAgg75
  z51 := Tryd.sizeOf75
  v51 := Tryd.zeroValue75
  t141 := Tryd.underlying77
  a141 := Tryd.isAgg77
  z141 := Tryd.sizeOf77
  v141 := Tryd.zeroValue77
  t193 := Tryd.underlying81
  a193 := Tryd.isAgg81
  z193 := Tryd.sizeOf81
  v193 := Tryd.zeroValue81
  t194 := Tryd.underlying82
  a194 := Tryd.isAgg82
  z194 := Tryd.sizeOf82
  v194 := Tryd.zeroValue82
  t196 := Tryd.underlying84
  a196 := Tryd.isAgg84
  z196 := Tryd.sizeOf84
  v196 := Tryd.zeroValue84
  t198 := Tryd.underlying87
  a198 := Tryd.isAgg87
  z198 := Tryd.sizeOf87
  v198 := Tryd.zeroValue87
  t201 := Tryd.underlying90
  a201 := Tryd.isAgg90
  z201 := Tryd.sizeOf90
  v201 := Tryd.zeroValue90
  t226 := Tryd.underlying92
  a226 := Tryd.isAgg92
  z226 := Tryd.sizeOf92
  v226 := Tryd.zeroValue92
  t227 := Tryd.underlying94
  a227 := Tryd.isAgg94
  z227 := Tryd.sizeOf94
  v227 := Tryd.zeroValue94
  g6 := by kernel_rfl }
open Go.RowKit Go.Lib in
theorem Tryd.unicode_IsSpace (r : Int) (w : World) (h0 : 0 ≤ r) (h : r ≤ 255) :
    Calls Tryd.prog 33 #[.int .i32 r] w fun e w' => e = .returned (.bool (Lib.isSpaceL r)) ∧ w' = w := Any.unicode_IsSpace Tryd.lays199 r w h0 h
def Tryd.lays197_ren : Go.Shelf.Ren := ⟨fun | 197 => 39 | 260 => 44 | n => n, fun | 9 => 9 | 21 => 21 | 3 => 3 | 4 => 4 | 5 => 5 | 105 => 79 | 119 => 72 | 0 => 0 | 46 => 93 | 139 => 98 | 138 => 97 | n => n, fun | 3 => 6 | 4 => 7 | n => n⟩
theorem Tryd.lays197 : Go.Proofs.Lays.n197 Tryd.prog Tryd.lays197_ren := {
  mixed := by kernel_rfl
  f197 := Tryd.func39.trans (congrArg some (by kernel_rfl))
  f260 := Tryd.func44.trans (congrArg some (by kernel_rfl))
  t0 := Tryd.underlying0
  a0 := Tryd.isAgg0
  z0 := Tryd.sizeOf0
  v0 := Tryd.zeroValue0
  t3 := Tryd.underlying3
  a3 := Tryd.isAgg3
  z3 := Tryd.sizeOf3
  v3 := Tryd.zeroValue3
  t4 := Tryd.underlying4
  a4 := Tryd.isAgg4
  z4 := Tryd.sizeOf4
  v4 := Tryd.zeroValue4
  t5 := Tryd.underlying5
  a5 := Tryd.isAgg5
  z5 := Tryd.sizeOf5
  v5 := Tryd.zeroValue5
  t9 := Tryd.underlying9
  a9 := Tryd.isAgg9
  z9 := Tryd.sizeOf9
  v9 := Tryd.zeroValue9
  t21 := Tryd.underlying21
  a21 := Tryd.isAgg21
  z21 := Tryd.sizeOf21
  v21 := Tryd.zeroValue21
  t46 := Tryd.underlying93
  a46 := Tryd.isAgg93
  z46 := Tryd.sizeOf93
  v46 := Tryd.zeroValue93
  t105 := Tryd.underlying79
  a105 := Tryd.isAgg79
  z105 := Tryd.sizeOf79
  v105 := Tryd.zeroValue79
  t119 := Tryd.underlying72
  a119 := Tryd.isAgg72
  z119 := Tryd.sizeOf72
  t138 := Tryd.underlying97
  a138 := Tryd.isAgg97
  z138 := Tryd.sizeOf97
  v138 := Tryd.zeroValue97
  t139 := Tryd.underlying98
  a139 := Tryd.isAgg98
  z139 := Tryd.sizeOf98
  v139 := Tryd.zeroValue98
  g3 := by kernel_rfl
  g4 := by kernel_rfl }
open Go.RowKit Go.Lib in
/-- unicode/utf8.DecodeRuneInString: "DecodeRuneInString is like DecodeRune but its input is a string.": ("DecodeRune unpacks the first UTF-8 encoding in p and returns the rune and its width in bytes."): WHERE s BEGINS WITH AN ASCII BYTE x: (x, 1). (LAID: no walk: one application.) -/
theorem Tryd.utf8_DecodeRuneInString_ascii (s : ByteArray) (x : UInt8) (w : World) (h0 : s.data.toList[0]? = some x) (hx : x.toNat < 128) :
    Calls Tryd.prog 39 #[.string s] w fun e w' => e = .returned (.tuple #[.int .i32 x.toNat, .int .i64 1]) ∧ w' = w := Any.utf8_DecodeRuneInString_ascii Tryd.lays197 s x w h0 hx
def Tryd.lays260_ren : Go.Shelf.Ren := ⟨fun | 260 => 44 | n => n, fun | 9 => 9 | 21 => 21 | 3 => 3 | 4 => 4 | 5 => 5 | 119 => 72 | 0 => 0 | 46 => 93 | 139 => 98 | 138 => 97 | n => n, fun | 3 => 6 | 4 => 7 | n => n⟩
theorem Tryd.lays260 : Go.Proofs.Lays.n260 Tryd.prog Tryd.lays260_ren := {
  mixed := by kernel_rfl
  f260 := Tryd.func44.trans (congrArg some (by kernel_rfl))
  t0 := Tryd.underlying0
  a0 := Tryd.isAgg0
  z0 := Tryd.sizeOf0
  v0 := Tryd.zeroValue0
  t3 := Tryd.underlying3
  a3 := Tryd.isAgg3
  z3 := Tryd.sizeOf3
  v3 := Tryd.zeroValue3
  t4 := Tryd.underlying4
  a4 := Tryd.isAgg4
  z4 := Tryd.sizeOf4
  v4 := Tryd.zeroValue4
  t5 := Tryd.underlying5
  a5 := Tryd.isAgg5
  z5 := Tryd.sizeOf5
  v5 := Tryd.zeroValue5
  t9 := Tryd.underlying9
  a9 := Tryd.isAgg9
  z9 := Tryd.sizeOf9
  v9 := Tryd.zeroValue9
  t21 := Tryd.underlying21
  a21 := Tryd.isAgg21
  z21 := Tryd.sizeOf21
  v21 := Tryd.zeroValue21
  t46 := Tryd.underlying93
  a46 := Tryd.isAgg93
  z46 := Tryd.sizeOf93
  v46 := Tryd.zeroValue93
  t119 := Tryd.underlying72
  a119 := Tryd.isAgg72
  z119 := Tryd.sizeOf72
  t138 := Tryd.underlying97
  a138 := Tryd.isAgg97
  z138 := Tryd.sizeOf97
  v138 := Tryd.zeroValue97
  t139 := Tryd.underlying98
  a139 := Tryd.isAgg98
  z139 := Tryd.sizeOf98
  v139 := Tryd.zeroValue98
  g3 := by kernel_rfl
  g4 := by kernel_rfl }
open Go.RowKit Go.Lib in
theorem Tryd.utf8_decodeRuneInStringSlow (s : ByteArray) (w : World) (hT : Lib.Utf8Tabs 6 7 w) :
    Calls Tryd.prog 44 #[.string s] w fun e w' => e = .returned (.tuple #[.int .i32 (Lib.decodeGo s).1, .int .i64 (Lib.decodeGo s).2]) ∧ Below w.heap.size w w' := Any.utf8_decodeRuneInStringSlow Tryd.lays260 s w hT
open Go.RowKit Go.Lib in
/-- **unicode/utf8.DecodeRuneInString AT EVERY STRING.** (LAID: no walk: one application.) -/
theorem Tryd.utf8_DecodeRuneInString (s : ByteArray) (w : World) (hT : Lib.Utf8Tabs 6 7 w) :
    Calls Tryd.prog 39 #[.string s] w fun e w' => e = .returned (.tuple #[.int .i32 (Lib.decodeGo s).1, .int .i64 (Lib.decodeGo s).2]) ∧ Below w.heap.size w w' := Any.utf8_DecodeRuneInString Tryd.lays197 s w hT
def Tryd.lays311_ren : Go.Shelf.Ren := ⟨fun | 311 => 41 | n => n, fun | 193 => 81 | 49 => 85 | 4 => 4 | 3 => 3 | 0 => 0 | 226 => 92 | 198 => 87 | 46 => 93 | n => n, fun | n => n⟩
theorem Tryd.lays311 : Go.Proofs.Lays.n311 Tryd.prog Tryd.lays311_ren := {
  mixed := by kernel_rfl
  f311 := Tryd.func41.trans (congrArg some (by kernel_rfl))
  t0 := Tryd.underlying0
  a0 := Tryd.isAgg0
  z0 := Tryd.sizeOf0
  v0 := Tryd.zeroValue0
  t3 := Tryd.underlying3
  a3 := Tryd.isAgg3
  z3 := Tryd.sizeOf3
  v3 := Tryd.zeroValue3
  t4 := Tryd.underlying4
  a4 := Tryd.isAgg4
  z4 := Tryd.sizeOf4
  v4 := Tryd.zeroValue4
  t46 := Tryd.underlying93
  a46 := Tryd.isAgg93
  z46 := Tryd.sizeOf93
  v46 := Tryd.zeroValue93
  t49 := Tryd.underlying85
  a49 := Tryd.isAgg85
  z49 := Tryd.sizeOf85
  v49 := Tryd.zeroValue85
  t193 := Tryd.underlying81
  a193 := Tryd.isAgg81
  z193 := Tryd.sizeOf81
  v193 := Tryd.zeroValue81
  t198 := Tryd.underlying87
  a198 := Tryd.isAgg87
  z198 := Tryd.sizeOf87
  v198 := Tryd.zeroValue87
  t226 := Tryd.underlying92
  a226 := Tryd.isAgg92
  z226 := Tryd.sizeOf92
  v226 := Tryd.zeroValue92 }
open Go.RowKit Go.Lib in
theorem Tryd.unicode_is16_white (R oR : Nat) (z : Nat) (w : World) (hz : z < 65536) (hz0 : 255 < z) (c6 : w.cell? ⟨R, oR + 6, none⟩ = some (.int .u16 160)) (c7 : w.cell? ⟨R, oR + 7, none⟩ = some (.int .u16 5760)) (c8 : w.cell? ⟨R, oR + 8, none⟩ = some (.int .u16 5600)) (c9 : w.cell? ⟨R, oR + 9, none⟩ = some (.int .u16 8192)) (c10 : w.cell? ⟨R, oR + 10, none⟩ = some (.int .u16 8202)) (c11 : w.cell? ⟨R, oR + 11, none⟩ = some (.int .u16 1)) (c12 : w.cell? ⟨R, oR + 12, none⟩ = some (.int .u16 8232)) (c13 : w.cell? ⟨R, oR + 13, none⟩ = some (.int .u16 8233)) (c14 : w.cell? ⟨R, oR + 14, none⟩ = some (.int .u16 1)) (c15 : w.cell? ⟨R, oR + 15, none⟩ = some (.int .u16 8239)) (c16 : w.cell? ⟨R, oR + 16, none⟩ = some (.int .u16 8287)) (c17 : w.cell? ⟨R, oR + 17, none⟩ = some (.int .u16 48)) (c18 : w.cell? ⟨R, oR + 18, none⟩ = some (.int .u16 12288)) (c19 : w.cell? ⟨R, oR + 19, none⟩ = some (.int .u16 12288)) (c20 : w.cell? ⟨R, oR + 20, none⟩ = some (.int .u16 1)) :
    Calls Tryd.prog 41 #[.slice (some ⟨R, oR + 6, none⟩) 5 5, .int .u16 z] w fun e w' => e = .returned (.bool (Lib.isSpaceR z)) ∧ Below w.heap.size w w' := Any.unicode_is16_white Tryd.lays311 R oR z w hz hz0 c6 c7 c8 c9 c10 c11 c12 c13 c14 c15 c16 c17 c18 c19 c20
def Tryd.lays261_ren : Go.Shelf.Ren := ⟨fun | 261 => 37 | 311 => 41 | 312 => 42 | n => n, fun | 141 => 77 | 21 => 21 | 4 => 4 | 0 => 0 | 196 => 84 | 193 => 81 | 3 => 3 | 51 => 75 | 198 => 87 | 49 => 85 | 194 => 82 | 201 => 90 | 226 => 92 | 46 => 93 | 227 => 94 | n => n, fun | n => n⟩
theorem Tryd.lays261 : Go.Proofs.Lays.n261 Tryd.prog Tryd.lays261_ren := {
  mixed := by kernel_rfl
  f261 := Tryd.func37.trans (congrArg some (by kernel_rfl))
  f311 := Tryd.func41.trans (congrArg some (by kernel_rfl))
  f312 := Tryd.func42.trans (congrArg some (by kernel_rfl))
  t0 := Tryd.underlying0
  a0 := Tryd.isAgg0
  z0 := Tryd.sizeOf0
  v0 := Tryd.zeroValue0
  t3 := Tryd.underlying3
  a3 := Tryd.isAgg3
  z3 := Tryd.sizeOf3
  v3 := Tryd.zeroValue3
  t4 := Tryd.underlying4
  a4 := Tryd.isAgg4
  z4 := Tryd.sizeOf4
  v4 := Tryd.zeroValue4
  t21 := Tryd.underlying21
  a21 := Tryd.isAgg21
  z21 := Tryd.sizeOf21
  v21 := Tryd.zeroValue21
  t46 := Tryd.underlying93
  a46 := Tryd.isAgg93
  z46 := Tryd.sizeOf93
  v46 := Tryd.zeroValue93
  t49 := Tryd.underlying85
  a49 := Tryd.isAgg85
  z49 := Tryd.sizeOf85
  v49 := Tryd.zeroValue85
  t51 := Tryd.underlying75
  a51 := Tryd.isAgg75
  z51 := Tryd.sizeOf75
  v51 := Tryd.zeroValue75
  t141 := Tryd.underlying77
  a141 := Tryd.isAgg77
  z141 := Tryd.sizeOf77
  v141 := Tryd.zeroValue77
  t193 := Tryd.underlying81
  a193 := Tryd.isAgg81
  z193 := Tryd.sizeOf81
  v193 := Tryd.zeroValue81
  t194 := Tryd.underlying82
  a194 := Tryd.isAgg82
  z194 := Tryd.sizeOf82
  v194 := Tryd.zeroValue82
  t196 := Tryd.underlying84
  a196 := Tryd.isAgg84
  z196 := Tryd.sizeOf84
  v196 := Tryd.zeroValue84
  t198 := Tryd.underlying87
  a198 := Tryd.isAgg87
  z198 := Tryd.sizeOf87
  v198 := Tryd.zeroValue87
  t201 := Tryd.underlying90
  a201 := Tryd.isAgg90
  z201 := Tryd.sizeOf90
  v201 := Tryd.zeroValue90
  t226 := Tryd.underlying92
  a226 := Tryd.isAgg92
  z226 := Tryd.sizeOf92
  v226 := Tryd.zeroValue92
  t227 := Tryd.underlying94
  a227 := Tryd.isAgg94
  z227 := Tryd.sizeOf94
  v227 := Tryd.zeroValue94 }
open Go.RowKit Go.Lib in
/-- unicode.isExcludingLatin(White_Space, r), r beyond U+00FF or negative. (LAID: no walk: one application.) -/
theorem Tryd.unicode_isExcludingLatin_white (T oT R oR : Nat) (r : Int) (w : World) (hlo : -2147483648 ≤ r) (hhi : r ≤ 2147483647) (hr : r < 0 ∨ 255 < r) (h2 : w.cell? ⟨T, oT, none⟩ = some (.slice (some ⟨R, oR, none⟩) 7 7)) (h3 : w.cell? ⟨T, oT + 1, none⟩ = some (.slice none 0 0)) (h4 : w.cell? ⟨T, oT + 2, none⟩ = some (.int .i64 2)) (h5 : ∀ i, i < 21 → w.cell? ⟨R, oR + i, none⟩ = some (.int .u16 (whiteT.getD i 0))) :
    Calls Tryd.prog 37 #[.pointer (some ⟨T, oT, none⟩), .int .i32 r] w fun e w' => e = .returned (.bool (Lib.isSpaceZ r)) ∧ Below w.heap.size w w' := Any.unicode_isExcludingLatin_white Tryd.lays261 T oT R oR r w hlo hhi hr h2 h3 h4 h5
open Go.RowKit Go.Lib in
/-- **unicode.IsSpace AT EVERY int32.** (LAID: no walk: one application.) -/
theorem Tryd.unicode_IsSpace_any (r : Int) (w : World) (hlo : -2147483648 ≤ r) (hhi : r ≤ 2147483647) (hW : Lib.WhiteTab 5 w) :
    Calls Tryd.prog 33 #[.int .i32 r] w fun e w' => e = .returned (.bool (Lib.isSpaceZ r)) ∧ Below w.heap.size w w' := Any.unicode_IsSpace_any Tryd.lays199 r w hlo hhi hW
def Tryd.lays271_ren : Go.Shelf.Ren := ⟨fun | 271 => 43 | 120 => 45 | 197 => 39 | 260 => 44 | n => n, fun | 9 => 9 | 21 => 21 | 3 => 3 | 4 => 4 | 5 => 5 | 105 => 79 | 119 => 72 | 0 => 0 | 46 => 93 | 139 => 98 | 138 => 97 | n => n, fun | 3 => 6 | 4 => 7 | n => n⟩
theorem Tryd.lays271 : Go.Proofs.Lays.n271 Tryd.prog Tryd.lays271_ren := {
  mixed := by kernel_rfl
  f120 := Tryd.func45.trans (congrArg some (by kernel_rfl))
  f197 := Tryd.func39.trans (congrArg some (by kernel_rfl))
  f260 := Tryd.func44.trans (congrArg some (by kernel_rfl))
  f271 := Tryd.func43.trans (congrArg some (by kernel_rfl))
  t0 := Tryd.underlying0
  a0 := Tryd.isAgg0
  z0 := Tryd.sizeOf0
  v0 := Tryd.zeroValue0
  t3 := Tryd.underlying3
  a3 := Tryd.isAgg3
  z3 := Tryd.sizeOf3
  v3 := Tryd.zeroValue3
  t4 := Tryd.underlying4
  a4 := Tryd.isAgg4
  z4 := Tryd.sizeOf4
  v4 := Tryd.zeroValue4
  t5 := Tryd.underlying5
  a5 := Tryd.isAgg5
  z5 := Tryd.sizeOf5
  v5 := Tryd.zeroValue5
  t9 := Tryd.underlying9
  a9 := Tryd.isAgg9
  z9 := Tryd.sizeOf9
  v9 := Tryd.zeroValue9
  t21 := Tryd.underlying21
  a21 := Tryd.isAgg21
  z21 := Tryd.sizeOf21
  v21 := Tryd.zeroValue21
  t46 := Tryd.underlying93
  a46 := Tryd.isAgg93
  z46 := Tryd.sizeOf93
  v46 := Tryd.zeroValue93
  t105 := Tryd.underlying79
  a105 := Tryd.isAgg79
  z105 := Tryd.sizeOf79
  v105 := Tryd.zeroValue79
  t119 := Tryd.underlying72
  a119 := Tryd.isAgg72
  z119 := Tryd.sizeOf72
  t138 := Tryd.underlying97
  a138 := Tryd.isAgg97
  z138 := Tryd.sizeOf97
  v138 := Tryd.zeroValue97
  t139 := Tryd.underlying98
  a139 := Tryd.isAgg98
  z139 := Tryd.sizeOf98
  v139 := Tryd.zeroValue98
  g3 := by kernel_rfl
  g4 := by kernel_rfl }
open Go.RowKit Go.Lib in
/-- **unicode/utf8.DecodeLastRuneInString AT EVERY STRING.** (LAID: no walk: one application.) -/
theorem Tryd.utf8_DecodeLastRuneInString (s : ByteArray) (w : World) (hs : s.size ≤ 9223372036854775807) (hT : Lib.Utf8Tabs 6 7 w) :
    Calls Tryd.prog 43 #[.string s] w fun e w' => e = .returned (.tuple #[.int .i32 (Lib.decodeLastL s.data.toList).1, .int .i64 (Lib.decodeLastL s.data.toList).2]) ∧ Below w.heap.size w w' := Any.utf8_DecodeLastRuneInString Tryd.lays271 s w hs hT
open Go.RowKit in
theorem Tryd.strings_TrimSpace_any (s : ByteArray) (w : World) (hs : s.size ≤ 9223372036854775807) (htab : Lib.TabIs Tryd.prog w "strings.asciiSpace" .u8 Lib.asciiSpaceTab) (hU8 : Lib.Utf8Tabs 6 7 w) (hWS : Lib.WhiteTab 5 w) :
    Calls Tryd.prog 26 #[.string s] w fun e w' => e = .returned (.string ⟨(Lib.trimSpaceD s.data.toList).toArray⟩) ∧ Below w.heap.size w w' := Any.strings_TrimSpace_any Tryd.lays163 Tryd.Space_Extra_163 s w hs htab hU8 hWS
open Go.RowKit Go.Lib in
theorem Tryd.unicode_is16_white_d (R oR : Nat) (z : Nat) (w : World) (hz : z < 65536) (hz0 : 255 < z) (c6 : w.cell? ⟨R, oR + 6, none⟩ = some (.int .u16 160)) (c7 : w.cell? ⟨R, oR + 7, none⟩ = some (.int .u16 5760)) (c8 : w.cell? ⟨R, oR + 8, none⟩ = some (.int .u16 5600)) (c9 : w.cell? ⟨R, oR + 9, none⟩ = some (.int .u16 8192)) (c10 : w.cell? ⟨R, oR + 10, none⟩ = some (.int .u16 8202)) (c11 : w.cell? ⟨R, oR + 11, none⟩ = some (.int .u16 1)) (c12 : w.cell? ⟨R, oR + 12, none⟩ = some (.int .u16 8232)) (c13 : w.cell? ⟨R, oR + 13, none⟩ = some (.int .u16 8233)) (c14 : w.cell? ⟨R, oR + 14, none⟩ = some (.int .u16 1)) (c15 : w.cell? ⟨R, oR + 15, none⟩ = some (.int .u16 8239)) (c16 : w.cell? ⟨R, oR + 16, none⟩ = some (.int .u16 8287)) (c17 : w.cell? ⟨R, oR + 17, none⟩ = some (.int .u16 48)) (c18 : w.cell? ⟨R, oR + 18, none⟩ = some (.int .u16 12288)) (c19 : w.cell? ⟨R, oR + 19, none⟩ = some (.int .u16 12288)) (c20 : w.cell? ⟨R, oR + 20, none⟩ = some (.int .u16 1)) :
    Calls Tryd.prog 41 #[.slice (some ⟨R, oR + 6, none⟩) 5 5, .int .u16 z] w fun e w' => e = .returned (.bool (Lib.isSpaceR z)) ∧ ∃ q, w' = w.drewN q := Any.unicode_is16_white_d Tryd.lays311 R oR z w hz hz0 c6 c7 c8 c9 c10 c11 c12 c13 c14 c15 c16 c17 c18 c19 c20
open Go.RowKit Go.Lib in
/-- unicode.isExcludingLatin(White_Space, r), r beyond U+00FF or negative. (LAID: no walk: one application.) -/
theorem Tryd.unicode_isExcludingLatin_white_d (T oT R oR : Nat) (r : Int) (w : World) (hlo : -2147483648 ≤ r) (hhi : r ≤ 2147483647) (hr : r < 0 ∨ 255 < r) (h2 : w.cell? ⟨T, oT, none⟩ = some (.slice (some ⟨R, oR, none⟩) 7 7)) (h3 : w.cell? ⟨T, oT + 1, none⟩ = some (.slice none 0 0)) (h4 : w.cell? ⟨T, oT + 2, none⟩ = some (.int .i64 2)) (h5 : ∀ i, i < 21 → w.cell? ⟨R, oR + i, none⟩ = some (.int .u16 (whiteT.getD i 0))) :
    Calls Tryd.prog 37 #[.pointer (some ⟨T, oT, none⟩), .int .i32 r] w fun e w' => e = .returned (.bool (Lib.isSpaceZ r)) ∧ ∃ q, w' = w.drewN q := Any.unicode_isExcludingLatin_white_d Tryd.lays261 T oT R oR r w hlo hhi hr h2 h3 h4 h5
open Go.RowKit Go.Lib in
/-- **unicode.IsSpace AT EVERY int32.** (LAID: no walk: one application.) -/
theorem Tryd.unicode_IsSpace_any_d (r : Int) (w : World) (hlo : -2147483648 ≤ r) (hhi : r ≤ 2147483647) (hW : Lib.WhiteTab 5 w) :
    Calls Tryd.prog 33 #[.int .i32 r] w fun e w' => e = .returned (.bool (Lib.isSpaceZ r)) ∧ ∃ q, w' = w.drewN q := Any.unicode_IsSpace_any_d Tryd.lays199 r w hlo hhi hW
open Go.RowKit Go.Lib in
theorem Tryd.unicode_is16_any (T : Array Rg) (R oR cap : Nat) (z : Nat) (w : World) (hz : z < 65536) (hT : RgTab .u16 R oR T w) (hok : RgOk 65536 T) (hn : T.size ≤ 1000000000) :
    Calls Tryd.prog 41 #[.slice (some ⟨R, oR, none⟩) T.size cap, .int .u16 z] w fun e w' => e = .returned (.bool (is16Go T z)) ∧ ∃ q, w' = w.drewN q := Any.unicode_is16_any Tryd.lays311 T R oR cap z w hz hT hok hn
def Tryd.lays312_ren : Go.Shelf.Ren := ⟨fun | 312 => 42 | n => n, fun | 194 => 82 | 51 => 75 | 4 => 4 | 3 => 3 | 0 => 0 | 227 => 94 | 201 => 90 | 46 => 93 | n => n, fun | n => n⟩
theorem Tryd.lays312 : Go.Proofs.Lays.n312 Tryd.prog Tryd.lays312_ren := {
  mixed := by kernel_rfl
  f312 := Tryd.func42.trans (congrArg some (by kernel_rfl))
  t0 := Tryd.underlying0
  a0 := Tryd.isAgg0
  z0 := Tryd.sizeOf0
  v0 := Tryd.zeroValue0
  t3 := Tryd.underlying3
  a3 := Tryd.isAgg3
  z3 := Tryd.sizeOf3
  v3 := Tryd.zeroValue3
  t4 := Tryd.underlying4
  a4 := Tryd.isAgg4
  z4 := Tryd.sizeOf4
  v4 := Tryd.zeroValue4
  t46 := Tryd.underlying93
  a46 := Tryd.isAgg93
  z46 := Tryd.sizeOf93
  v46 := Tryd.zeroValue93
  t51 := Tryd.underlying75
  a51 := Tryd.isAgg75
  z51 := Tryd.sizeOf75
  v51 := Tryd.zeroValue75
  t194 := Tryd.underlying82
  a194 := Tryd.isAgg82
  z194 := Tryd.sizeOf82
  v194 := Tryd.zeroValue82
  t201 := Tryd.underlying90
  a201 := Tryd.isAgg90
  z201 := Tryd.sizeOf90
  v201 := Tryd.zeroValue90
  t227 := Tryd.underlying94
  a227 := Tryd.isAgg94
  z227 := Tryd.sizeOf94
  v227 := Tryd.zeroValue94 }
open Go.RowKit Go.Lib in
theorem Tryd.unicode_is32_any (T : Array Rg) (R oR cap : Nat) (z : Nat) (w : World) (hz : z < 4294967296) (hT : RgTab .u32 R oR T w) (hok : RgOk 4294967296 T) (hn : T.size ≤ 1000000000) :
    Calls Tryd.prog 42 #[.slice (some ⟨R, oR, none⟩) T.size cap, .int .u32 z] w fun e w' => e = .returned (.bool (is32Go T z)) ∧ Below w.heap.size w w' := Any.unicode_is32_any Tryd.lays312 T R oR cap z w hz hT hok hn
open Go.RowKit Go.Lib in
theorem Tryd.unicode_isExcludingLatin_any (Tb oT : Nat) (T : RTab) (r : Int) (w : World) (hlo : -2147483648 ≤ r) (hhi : r ≤ 2147483647) (hA : RTabAt Tb oT T w) (hok : RTabOk T) :
    Calls Tryd.prog 37 #[.pointer (some ⟨Tb, oT, none⟩), .int .i32 r] w fun e w' => e = .returned (.bool (exclGo T r)) ∧ Below w.heap.size w w' := Any.unicode_isExcludingLatin_any Tryd.lays261 Tb oT T r w hlo hhi hA hok
open Go.RowKit Go.Lib in
theorem Tryd.strings_indexFunc_grows (g : Nat) (lb : Array Value) (eg : ∀ args w, (callFunc g args).run Tryd.prog w = .ok (.enter g args) w) (p : Nat → Bool) (truth : Bool) (s : ByteArray) (w : World) (hp : PredGrows Tryd.prog g lb p w) :
    Calls Tryd.prog 40 #[.string s, .func (.func g) #[] lb, .bool truth] w fun e w' => e = .returned (.int .i64 (Lib.idxFunc p truth s)) ∧ Below w.heap.size w w' := Any.strings_indexFunc_grows Tryd.lays315 g lb eg p truth s w hp
open Go.RowKit Go.Lib in
theorem Tryd.strings_lastIndexFunc_grows (g : Nat) (lb : Array Value) (eg : ∀ args w, (callFunc g args).run Tryd.prog w = .ok (.enter g args) w) (p : Nat → Bool) (truth : Bool) (s : ByteArray) (w : World) (hs : s.size ≤ 9223372036854775807) (hT : Lib.Utf8Tabs 6 7 w) (hp : PredGrows Tryd.prog g lb p w) :
    Calls Tryd.prog 38 #[.string s, .func (.func g) #[] lb, .bool truth] w fun e w' => e = .returned (.int .i64 (Lib.lastIdxFunc p truth s)) ∧ Below w.heap.size w w' := Any.strings_lastIndexFunc_grows Tryd.lays273 g lb eg p truth s w hs hT hp
open Go.RowKit Go.Lib in
theorem Tryd.strings_TrimLeftFunc_grows (g : Nat) (lb : Array Value) (eg : ∀ args w, (callFunc g args).run Tryd.prog w = .ok (.enter g args) w) (p : Nat → Bool) (s : ByteArray) (w : World) (hp : PredGrows Tryd.prog g lb p w) :
    Calls Tryd.prog 36 #[.string s, .func (.func g) #[] lb] w fun e w' => e = .returned (.string (Lib.trimLeftF p s)) ∧ Below w.heap.size w w' := Any.strings_TrimLeftFunc_grows Tryd.lays272 g lb eg p s w hp
open Go.RowKit Go.Lib in
theorem Tryd.strings_TrimRightFunc_grows (g : Nat) (lb : Array Value) (eg : ∀ args w, (callFunc g args).run Tryd.prog w = .ok (.enter g args) w) (p : Nat → Bool) (s : ByteArray) (w : World) (hs : s.size ≤ 9223372036854775807) (hT : Lib.Utf8Tabs 6 7 w) (hp : PredGrows Tryd.prog g lb p w) :
    Calls Tryd.prog 34 #[.string s, .func (.func g) #[] lb] w fun e w' => e = .returned (.string (Lib.trimRightF p s)) ∧ Below w.heap.size w w' := Any.strings_TrimRightFunc_grows Tryd.lays238 g lb eg p s w hs hT hp
open Go.RowKit Go.Lib in
/-- **strings.TrimFunc(s, f) AT EVERY STRING, AT WHATEVER FUNCTION VALUE.** (LAID: no walk: one application.) -/
theorem Tryd.strings_TrimFunc_grows (g : Nat) (lb : Array Value) (eg : ∀ args w, (callFunc g args).run Tryd.prog w = .ok (.enter g args) w) (p : Nat → Bool) (s : ByteArray) (w : World) (hs : s.size ≤ 9223372036854775807) (hT : Lib.Utf8Tabs 6 7 w) (hp : PredGrows Tryd.prog g lb p w) :
    Calls Tryd.prog 32 #[.string s, .func (.func g) #[] lb] w fun e w' => e = .returned (.string (Lib.trimF p s)) ∧ Below w.heap.size w w' := Any.strings_TrimFunc_grows Tryd.lays237 g lb eg p s w hs hT hp
end Go.Proofs
