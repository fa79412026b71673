/-
  DERIVED: THE SHELF's CONTRACTS AT THIS DUMP, IN PLAIN WORDS (tools/lay-plain.mjs out of 'TrydShelf.lean', which tools/lay-shelf.mjs wrote): THE SAME DECLARATIONS UNDER THE SAME NAMES: 'import', 'namespace', 'open', 'def', 'theorem' AND NOTHING ELSE: no command of the shelf's: FOR A HAND-IN. Each laying: the table of numbers ('.._ren') and one theorem, a field a fact of the dump's own or the kernel's comparison; each contract: ONE APPLICATION.
-/
import Derived.Shelf.Small.Utf8
import Derived.Shelf.Strconv.ParseIntEmpty
import Derived.Shelf.LaysM
import Derived.Shelf.Strconv.Clone
import Derived.Shelf.Strconv.SyntaxError
import Derived.Shelf.LaysC
import Derived.Shelf.Strconv.ToError
import Derived.Shelf.Strconv.Lower
import Derived.Shelf.Strconv.ParseUint10
import Derived.Shelf.Strconv.ParseUint10Empty
import Derived.Shelf.Strconv.ParseUint10Any
import Derived.Shelf.Strconv.ParseInt10
import Derived.Shelf.Strconv.RangeError
import Derived.Shelf.Strconv.ToErrorRange
import Derived.Shelf.Strconv.ParseUintEmpty
import Derived.Shelf.Strconv.ParseUint10b64
import Derived.Shelf.Strconv.ParseUint10b32
import Derived.Shelf.Strconv.ParseUint10b16
import Derived.Shelf.Strconv.ParseUint10b8
import Derived.Shelf.Strconv.ParseUint10At
import Derived.Shelf.Strconv.ParseInt10At64
import Derived.Shelf.Strconv.ParseInt10At32
import Derived.Shelf.Strconv.ParseInt10At16
import Derived.Shelf.Strconv.ParseInt10At8
import Derived.Shelf.Strconv.ParseInt10All
import Derived.Shelf.Strconv.ParseIntPublic10
import Derived.Shelf.Bytes.SlIndexAt
import Derived.Shelf.Bytes.SlSearch0
import Derived.Shelf.Bytes.Small
import Derived.Shelf.Bytes.IndexByte
import Derived.Test.YtmdffoplfiamlaaDoorProg
namespace Go.Proofs
open Go.Shelf
def Tryd.lays120_ren : Go.Shelf.Ren := ⟨fun | 120 => 100 | n => n, fun | 5 => 5 | 4 => 4 | n => n, fun | n => n⟩
theorem Tryd.lays120 : Go.Proofs.Lays.n120 Tryd.prog Tryd.lays120_ren := {
  mixed := by kernel_rfl
  f120 := Tryd.func100.trans (congrArg some (by kernel_rfl))
  t4 := Tryd.underlying4
  a4 := Tryd.isAgg4
  z4 := Tryd.sizeOf4
  v4 := Tryd.zeroValue4
  t5 := Tryd.underlying5
  a5 := Tryd.isAgg5
  z5 := Tryd.sizeOf5
  v5 := Tryd.zeroValue5 }
/-- utf8.RuneStart: "RuneStart reports whether the byte could be the first byte of an encoded, possibly invalid rune. Second and subsequent bytes always have the top two bits set to 10.": IT RETURNS 'Lib.runeStart b'; the world is as it was. ('h0', 'h1': b is a byte: a caller has it of every byte that it was handed.) (LAID: no walk: one application.) -/
theorem Tryd.utf8_RuneStart (b : Int) (w : World) (h0 : 0 ≤ b) (h1 : b < 256) :
    Calls Tryd.prog 100 #[.int .u8 b] w fun e w' => e = .returned (.bool (Lib.runeStart b)) ∧ w' = w := Any.utf8_RuneStart Tryd.lays120 b w h0 h1
def Tryd.lays247_ren : Go.Shelf.Ren := ⟨fun | 247 => 93 | 287 => 101 | 321 => 108 | 322 => 109 | n => n, fun | 9 => 9 | 3 => 3 | 2 => 2 | 75 => 53 | 4 => 4 | 167 => 161 | 5 => 5 | 53 => 29 | 175 => 88 | 46 => 68 | 37 => 26 | 0 => 0 | 21 => 21 | 80 => 203 | n => n, fun | n => n⟩
theorem Tryd.lays247 : Go.Proofs.Lays.n247 Tryd.prog Tryd.lays247_ren := {
  mixed := by kernel_rfl
  f247 := Tryd.func93.trans (congrArg some (by kernel_rfl))
  f287 := Tryd.func101.trans (congrArg some (by kernel_rfl))
  f321 := Tryd.func108.trans (congrArg some (by kernel_rfl))
  f322 := Tryd.func109.trans (congrArg some (by kernel_rfl))
  t0 := Tryd.underlying0
  a0 := Tryd.isAgg0
  z0 := Tryd.sizeOf0
  v0 := Tryd.zeroValue0
  t2 := Tryd.underlying2
  a2 := Tryd.isAgg2
  z2 := Tryd.sizeOf2
  v2 := Tryd.zeroValue2
  t3 := Tryd.underlying3
  a3 := Tryd.isAgg3
  z3 := Tryd.sizeOf3
  v3 := Tryd.zeroValue3
  t4 := Tryd.underlying4
  a4 := Tryd.isAgg4
  z4 := Tryd.sizeOf4
  v4 := Tryd.zeroValue4
  t5 := Tryd.underlying5
  a5 := Tryd.isAgg5
  z5 := Tryd.sizeOf5
  v5 := Tryd.zeroValue5
  t9 := Tryd.underlying9
  a9 := Tryd.isAgg9
  z9 := Tryd.sizeOf9
  v9 := Tryd.zeroValue9
  t21 := Tryd.underlying21
  a21 := Tryd.isAgg21
  z21 := Tryd.sizeOf21
  v21 := Tryd.zeroValue21
  t37 := Tryd.underlying26
  a37 := Tryd.isAgg26
  z37 := Tryd.sizeOf26
  v37 := Tryd.zeroValue26
  t46 := Tryd.underlying68
  a46 := Tryd.isAgg68
  z46 := Tryd.sizeOf68
  v46 := Tryd.zeroValue68
  t53 := Tryd.underlying29
  a53 := Tryd.isAgg29
  z53 := Tryd.sizeOf29
  v53 := Tryd.zeroValue29
  t75 := Tryd.underlying53
  a75 := Tryd.isAgg53
  z75 := Tryd.sizeOf53
  v75 := Tryd.zeroValue53
  t167 := Tryd.underlying161
  a167 := Tryd.isAgg161
  z167 := Tryd.sizeOf161
  v167 := Tryd.zeroValue161
  t175 := Tryd.underlying88
  a175 := Tryd.isAgg88
  z175 := Tryd.sizeOf88
  v175 := Tryd.zeroValue88 }
open Go.RowKit in
/-- internal/strconv.ParseInt at "": 'if s == "" { return 0, ErrSyntax }'. The world is as it was. (LAID: no walk: one application.) -/
theorem Tryd.internal_strconv_ParseInt_empty (base bits : Int) (w : World) :
    Calls Tryd.prog 93 #[.string ⟨#[]⟩, .int .i64 base, .int .i64 bits] w fun e w' => e = .returned (.tuple #[.int .i64 0, (.iface 161 (.int .i64 2))]) ∧ w' = w := Any.internal_strconv_ParseInt_empty Tryd.lays247 base bits w
def Tryd.laysM316_ren : Go.Shelf.Ren := ⟨fun | 316 => 110 | n => n, fun | 9 => 9 | 3 => 3 | 4 => 4 | 37 => 26 | 0 => 0 | 127 => 167 | 5 => 5 | n => n, fun | n => n⟩
theorem Tryd.laysM316 : Go.Proofs.LaysM.n316 Tryd.prog Tryd.laysM316_ren := {
  mixed := by kernel_rfl
  f316 := Tryd.func110.trans (congrArg some (by kernel_rfl))
  t0 := Tryd.underlying0
  a0 := Tryd.isAgg0
  z0 := Tryd.sizeOf0
  v0 := Tryd.zeroValue0
  t3 := Tryd.underlying3
  a3 := Tryd.isAgg3
  z3 := Tryd.sizeOf3
  v3 := Tryd.zeroValue3
  t4 := Tryd.underlying4
  a4 := Tryd.isAgg4
  z4 := Tryd.sizeOf4
  v4 := Tryd.zeroValue4
  t9 := Tryd.underlying9
  a9 := Tryd.isAgg9
  z9 := Tryd.sizeOf9
  v9 := Tryd.zeroValue9
  t37 := Tryd.underlying26
  a37 := Tryd.isAgg26
  z37 := Tryd.sizeOf26
  v37 := Tryd.zeroValue26
  t127 := Tryd.underlying167
  a127 := Tryd.isAgg167
  z127 := Tryd.sizeOf167
  v127 := Tryd.zeroValue167
  t5 := Tryd.underlying5
  a5 := Tryd.isAgg5
  z5 := Tryd.sizeOf5
  v5 := Tryd.zeroValue5
  i0 := by kernel_rfl
  i3 := by kernel_rfl
  i4 := by kernel_rfl
  i5 := by kernel_rfl
  i9 := by kernel_rfl
  i37 := by kernel_rfl
  i127 := by kernel_rfl }
open Go.RowKit in
/-- internal/stringslite.Clone (what strings.Clone calls): "Clone returns a fresh copy of s.": THE SAME BYTES. Of what was there nothing has turned (a new row is laid, and frozen, where s is not empty). (LAID: no walk: one application.) -/
theorem Tryd.stringslite_Clone (s : ByteArray) (w : World) (hlim : s.size ≤ 281474976710656) :
    Calls Tryd.prog 110 #[.string s] w fun e w' => e = .returned (.string s) ∧ Below w.heap.size w w' := Any.stringslite_Clone Tryd.laysM316 s w hlim
def Tryd.laysM279_ren : Go.Shelf.Ren := ⟨fun | 279 => 102 | 316 => 110 | n => n, fun | 9 => 9 | 168 => 163 | 75 => 53 | 210 => 182 | 3 => 3 | 4 => 4 | 37 => 26 | 0 => 0 | 127 => 167 | 80 => 203 | 5 => 5 | n => n, fun | 15 => 10 | n => n⟩
theorem Tryd.laysM279 : Go.Proofs.LaysM.n279 Tryd.prog Tryd.laysM279_ren := {
  mixed := by kernel_rfl
  f279 := Tryd.func102.trans (congrArg some (by kernel_rfl))
  f316 := Tryd.func110.trans (congrArg some (by kernel_rfl))
  t0 := Tryd.underlying0
  a0 := Tryd.isAgg0
  z0 := Tryd.sizeOf0
  v0 := Tryd.zeroValue0
  t3 := Tryd.underlying3
  a3 := Tryd.isAgg3
  z3 := Tryd.sizeOf3
  v3 := Tryd.zeroValue3
  t4 := Tryd.underlying4
  a4 := Tryd.isAgg4
  z4 := Tryd.sizeOf4
  v4 := Tryd.zeroValue4
  t9 := Tryd.underlying9
  a9 := Tryd.isAgg9
  z9 := Tryd.sizeOf9
  v9 := Tryd.zeroValue9
  t37 := Tryd.underlying26
  a37 := Tryd.isAgg26
  z37 := Tryd.sizeOf26
  v37 := Tryd.zeroValue26
  t75 := Tryd.underlying53
  a75 := Tryd.isAgg53
  z75 := Tryd.sizeOf53
  v75 := Tryd.zeroValue53
  t127 := Tryd.underlying167
  a127 := Tryd.isAgg167
  z127 := Tryd.sizeOf167
  v127 := Tryd.zeroValue167
  t168 := Tryd.underlying163
  a168 := Tryd.isAgg163
  z168 := Tryd.sizeOf163
  v168 := Tryd.zeroValue163
  t210 := Tryd.underlying182
  a210 := Tryd.isAgg182
  z210 := Tryd.sizeOf182
  v210 := Tryd.zeroValue182
  g15 := by kernel_rfl
  t5 := Tryd.underlying5
  a5 := Tryd.isAgg5
  z5 := Tryd.sizeOf5
  v5 := Tryd.zeroValue5
  t80 := Tryd.underlying203
  a80 := Tryd.isAgg203
  z80 := Tryd.sizeOf203
  v80 := Tryd.zeroValue203
  i0 := by kernel_rfl
  i3 := by kernel_rfl
  i4 := by kernel_rfl
  i5 := by kernel_rfl
  i9 := by kernel_rfl
  i37 := by kernel_rfl
  i75 := by kernel_rfl
  i80 := by kernel_rfl
  i127 := by kernel_rfl
  i168 := by kernel_rfl
  i210 := by kernel_rfl
  m15 := by kernel_rfl }
open Go.RowKit in
/-- strconv.syntaxError: '&NumError{fn, stringslite.Clone(str), ErrSyntax}': A POINTER TO A NEW BLOCK that holds fn, str's bytes, and what the variable ErrSyntax holds. Of what was there nothing has turned. (LAID: no walk: one application.) -/
theorem Tryd.strconv_syntaxError (fn s : ByteArray) (ev : Value) (w : World) (hlim : s.size ≤ 281474976710656) (hv : w.cell? ⟨10, 0, none⟩ = some ev) (hev : ev = .nilIface ∨ ∃ te pe, ev = .iface te pe) :
    Calls Tryd.prog 102 #[.string fn, .string s] w fun e w' => ∃ N, e = .returned (.pointer (some ⟨N, 0, none⟩)) ∧ w.heap.size ≤ N ∧ w'.heap[N]? = some (.cells #[.string fn, .string s, ev] 182 (0, 0)) ∧ Below w.heap.size w w' := Any.strconv_syntaxError Tryd.laysM279 fn s ev w hlim hv hev
def Tryd.laysC245_ren : Go.Shelf.Ren := ⟨fun | 245 => 94 | 279 => 102 | 280 => 103 | 281 => 104 | 282 => 105 | 316 => 110 | 171 => 111 | 205 => 107 | 243 => 112 | 246 => 113 | 283 => 114 | 284 => 115 | 285 => 116 | 286 => 117 | 129 => 119 | 317 => 118 | 318 => 120 | 319 => 121 | 320 => 122 | 337 => 123 | 338 => 124 | n => n, fun | 9 => 9 | 3 => 3 | 75 => 53 | 167 => 161 | 4 => 4 | 168 => 163 | 210 => 182 | 37 => 26 | 0 => 0 | 127 => 167 | 145 => 186 | 143 => 184 | 2 => 2 | 171 => 188 | 53 => 29 | 5 => 5 | 173 => 191 | 212 => 194 | 51 => 28 | 20 => 20 | 213 => 195 | 46 => 68 | 232 => 199 | 233 => 200 | 80 => 203 | n => n, fun | 15 => 10 | 16 => 11 | 17 => 12 | 18 => 13 | 19 => 14 | n => n⟩
theorem Tryd.laysC245 : Go.Proofs.LaysC.n245 Tryd.prog Tryd.laysC245_ren := {
  mixed := by kernel_rfl
  f129 := Tryd.func119.trans (congrArg some (by kernel_rfl))
  f171 := Tryd.func111.trans (congrArg some (by kernel_rfl))
  f205 := Tryd.func107.trans (congrArg some (by kernel_rfl))
  f243 := Tryd.func112.trans (congrArg some (by kernel_rfl))
  f245 := Tryd.func94.trans (congrArg some (by kernel_rfl))
  f246 := Tryd.func113.trans (congrArg some (by kernel_rfl))
  f279 := Tryd.func102.trans (congrArg some (by kernel_rfl))
  f280 := Tryd.func103.trans (congrArg some (by kernel_rfl))
  f281 := Tryd.func104.trans (congrArg some (by kernel_rfl))
  f282 := Tryd.func105.trans (congrArg some (by kernel_rfl))
  f283 := Tryd.func114.trans (congrArg some (by kernel_rfl))
  f284 := Tryd.func115.trans (congrArg some (by kernel_rfl))
  f285 := Tryd.func116.trans (congrArg some (by kernel_rfl))
  f286 := Tryd.func117.trans (congrArg some (by kernel_rfl))
  f316 := Tryd.func110.trans (congrArg some (by kernel_rfl))
  f317 := Tryd.func118.trans (congrArg some (by kernel_rfl))
  f318 := Tryd.func120.trans (congrArg some (by kernel_rfl))
  f319 := Tryd.func121.trans (congrArg some (by kernel_rfl))
  f320 := Tryd.func122.trans (congrArg some (by kernel_rfl))
  f337 := Tryd.func123.trans (congrArg some (by kernel_rfl))
  f338 := Tryd.func124.trans (congrArg some (by kernel_rfl))
  t0 := Tryd.underlying0
  a0 := Tryd.isAgg0
  z0 := Tryd.sizeOf0
  v0 := Tryd.zeroValue0
  t2 := Tryd.underlying2
  a2 := Tryd.isAgg2
  z2 := Tryd.sizeOf2
  v2 := Tryd.zeroValue2
  t3 := Tryd.underlying3
  a3 := Tryd.isAgg3
  z3 := Tryd.sizeOf3
  v3 := Tryd.zeroValue3
  t4 := Tryd.underlying4
  a4 := Tryd.isAgg4
  z4 := Tryd.sizeOf4
  v4 := Tryd.zeroValue4
  t5 := Tryd.underlying5
  a5 := Tryd.isAgg5
  z5 := Tryd.sizeOf5
  v5 := Tryd.zeroValue5
  t9 := Tryd.underlying9
  a9 := Tryd.isAgg9
  z9 := Tryd.sizeOf9
  v9 := Tryd.zeroValue9
  t20 := Tryd.underlying20
  a20 := Tryd.isAgg20
  z20 := Tryd.sizeOf20
  v20 := Tryd.zeroValue20
  t37 := Tryd.underlying26
  a37 := Tryd.isAgg26
  z37 := Tryd.sizeOf26
  v37 := Tryd.zeroValue26
  t46 := Tryd.underlying68
  a46 := Tryd.isAgg68
  z46 := Tryd.sizeOf68
  v46 := Tryd.zeroValue68
  t51 := Tryd.underlying28
  a51 := Tryd.isAgg28
  z51 := Tryd.sizeOf28
  v51 := Tryd.zeroValue28
  t53 := Tryd.underlying29
  a53 := Tryd.isAgg29
  z53 := Tryd.sizeOf29
  v53 := Tryd.zeroValue29
  t75 := Tryd.underlying53
  a75 := Tryd.isAgg53
  z75 := Tryd.sizeOf53
  v75 := Tryd.zeroValue53
  t127 := Tryd.underlying167
  a127 := Tryd.isAgg167
  z127 := Tryd.sizeOf167
  v127 := Tryd.zeroValue167
  t143 := Tryd.underlying184
  a143 := Tryd.isAgg184
  z143 := Tryd.sizeOf184
  v143 := Tryd.zeroValue184
  t145 := Tryd.underlying186
  a145 := Tryd.isAgg186
  z145 := Tryd.sizeOf186
  v145 := Tryd.zeroValue186
  t167 := Tryd.underlying161
  a167 := Tryd.isAgg161
  z167 := Tryd.sizeOf161
  v167 := Tryd.zeroValue161
  t168 := Tryd.underlying163
  a168 := Tryd.isAgg163
  z168 := Tryd.sizeOf163
  v168 := Tryd.zeroValue163
  t171 := Tryd.underlying188
  a171 := Tryd.isAgg188
  z171 := Tryd.sizeOf188
  v171 := Tryd.zeroValue188
  t173 := Tryd.underlying191
  a173 := Tryd.isAgg191
  z173 := Tryd.sizeOf191
  v173 := Tryd.zeroValue191
  t210 := Tryd.underlying182
  a210 := Tryd.isAgg182
  z210 := Tryd.sizeOf182
  v210 := Tryd.zeroValue182
  t212 := Tryd.underlying194
  a212 := Tryd.isAgg194
  z212 := Tryd.sizeOf194
  v212 := Tryd.zeroValue194
  t213 := Tryd.underlying195
  a213 := Tryd.isAgg195
  z213 := Tryd.sizeOf195
  t232 := Tryd.underlying199
  a232 := Tryd.isAgg199
  z232 := Tryd.sizeOf199
  v232 := Tryd.zeroValue199
  t233 := Tryd.underlying200
  a233 := Tryd.isAgg200
  z233 := Tryd.sizeOf200
  v233 := Tryd.zeroValue200
  g15 := by kernel_rfl
  g16 := by kernel_rfl
  g17 := by kernel_rfl
  g18 := by kernel_rfl
  g19 := by kernel_rfl
  t80 := Tryd.underlying203
  a80 := Tryd.isAgg203
  z80 := Tryd.sizeOf203
  v80 := Tryd.zeroValue203
  i0 := by kernel_rfl
  i2 := by kernel_rfl
  i3 := by kernel_rfl
  i4 := by kernel_rfl
  i5 := by kernel_rfl
  i9 := by kernel_rfl
  i20 := by kernel_rfl
  i37 := by kernel_rfl
  i46 := by kernel_rfl
  i51 := by kernel_rfl
  i53 := by kernel_rfl
  i75 := by kernel_rfl
  i80 := by kernel_rfl
  i127 := by kernel_rfl
  i143 := by kernel_rfl
  i145 := by kernel_rfl
  i167 := by kernel_rfl
  i168 := by kernel_rfl
  i171 := by kernel_rfl
  i173 := by kernel_rfl
  i210 := by kernel_rfl
  i212 := by kernel_rfl
  i232 := by kernel_rfl
  i233 := by kernel_rfl
  m15 := by kernel_rfl
  m16 := by kernel_rfl
  m17 := by kernel_rfl
  m18 := by kernel_rfl
  m19 := by kernel_rfl
  c0 := by kernel_rfl
  c2 := by kernel_rfl
  c3 := by kernel_rfl
  c4 := by kernel_rfl
  c5 := by kernel_rfl
  c9 := by kernel_rfl
  c20 := by kernel_rfl
  c37 := by kernel_rfl
  c46 := by kernel_rfl
  c51 := by kernel_rfl
  c53 := by kernel_rfl
  c75 := by kernel_rfl
  c80 := by kernel_rfl
  c127 := by kernel_rfl
  c143 := by kernel_rfl
  c145 := by kernel_rfl
  c167 := by kernel_rfl
  c168 := by kernel_rfl
  c171 := by kernel_rfl
  c173 := by kernel_rfl
  c210 := by kernel_rfl
  c212 := by kernel_rfl
  c213 := by kernel_rfl
  c232 := by kernel_rfl
  c233 := by kernel_rfl }
open Go.RowKit in
/-- strconv.toError, at the inner package's ErrSyntax: 'syntaxError(fn, s)' as an error: A *NumError IN A NEW BLOCK. (LAID: no walk: one application.) -/
theorem Tryd.strconv_toError_syntax (fn s : ByteArray) (base bits : Int) (ev : Value) (w : World) (hlim : s.size ≤ 281474976710656) (hv : w.cell? ⟨10, 0, none⟩ = some ev) (hev : ev = .nilIface ∨ ∃ te pe, ev = .iface te pe) :
    Calls Tryd.prog 94 #[.string fn, .string s, .int .i64 base, .int .i64 bits, .iface 161 (.int .i64 2)] w fun e w' => ∃ N, e = .returned (.iface 163 (.pointer (some ⟨N, 0, none⟩))) ∧ w.heap.size ≤ N ∧ w'.heap[N]? = some (.cells #[.string fn, .string s, ev] 182 (0, 0)) ∧ Below w.heap.size w w' := Any.strconv_toError_syntax Tryd.laysC245 fn s base bits ev w hlim hv hev
def Tryd.lays321_ren : Go.Shelf.Ren := ⟨fun | 321 => 108 | n => n, fun | 5 => 5 | n => n, fun | n => n⟩
theorem Tryd.lays321 : Go.Proofs.Lays.n321 Tryd.prog Tryd.lays321_ren := {
  mixed := by kernel_rfl
  f321 := Tryd.func108.trans (congrArg some (by kernel_rfl))
  t5 := Tryd.underlying5
  a5 := Tryd.isAgg5
  z5 := Tryd.sizeOf5
  v5 := Tryd.zeroValue5 }
open Go.RowKit in
/-- internal/strconv.lower: 'c | ('x' - 'X')': the bit 32 set. The world is as it was. (LAID: no walk: one application.) -/
theorem Tryd.internal_strconv_lower (c : Int) (w : World) :
    Calls Tryd.prog 108 #[.int .u8 c] w fun e w' => e = .returned (.int .u8 (bits .or .u8 c 32)) ∧ w' = w := Any.internal_strconv_lower Tryd.lays321 c w
def Tryd.lays287_ren : Go.Shelf.Ren := ⟨fun | 287 => 101 | 321 => 108 | 322 => 109 | n => n, fun | 9 => 9 | 3 => 3 | 53 => 29 | 75 => 53 | 4 => 4 | 167 => 161 | 5 => 5 | 46 => 68 | 37 => 26 | 0 => 0 | 21 => 21 | 80 => 203 | n => n, fun | n => n⟩
theorem Tryd.lays287 : Go.Proofs.Lays.n287 Tryd.prog Tryd.lays287_ren := {
  mixed := by kernel_rfl
  f287 := Tryd.func101.trans (congrArg some (by kernel_rfl))
  f321 := Tryd.func108.trans (congrArg some (by kernel_rfl))
  f322 := Tryd.func109.trans (congrArg some (by kernel_rfl))
  t0 := Tryd.underlying0
  a0 := Tryd.isAgg0
  z0 := Tryd.sizeOf0
  v0 := Tryd.zeroValue0
  t3 := Tryd.underlying3
  a3 := Tryd.isAgg3
  z3 := Tryd.sizeOf3
  v3 := Tryd.zeroValue3
  t4 := Tryd.underlying4
  a4 := Tryd.isAgg4
  z4 := Tryd.sizeOf4
  v4 := Tryd.zeroValue4
  t5 := Tryd.underlying5
  a5 := Tryd.isAgg5
  z5 := Tryd.sizeOf5
  v5 := Tryd.zeroValue5
  t9 := Tryd.underlying9
  a9 := Tryd.isAgg9
  z9 := Tryd.sizeOf9
  v9 := Tryd.zeroValue9
  t21 := Tryd.underlying21
  a21 := Tryd.isAgg21
  z21 := Tryd.sizeOf21
  v21 := Tryd.zeroValue21
  t37 := Tryd.underlying26
  a37 := Tryd.isAgg26
  z37 := Tryd.sizeOf26
  v37 := Tryd.zeroValue26
  t46 := Tryd.underlying68
  a46 := Tryd.isAgg68
  z46 := Tryd.sizeOf68
  v46 := Tryd.zeroValue68
  t53 := Tryd.underlying29
  a53 := Tryd.isAgg29
  z53 := Tryd.sizeOf29
  v53 := Tryd.zeroValue29
  t75 := Tryd.underlying53
  a75 := Tryd.isAgg53
  z75 := Tryd.sizeOf53
  v75 := Tryd.zeroValue53
  t167 := Tryd.underlying161
  a167 := Tryd.isAgg161
  z167 := Tryd.sizeOf161
  v167 := Tryd.zeroValue161 }
open Go.RowKit in
/-- internal/strconv.ParseUint(s, 10, 0), s NOT EMPTY: 'Lib.parseUint10 0' OF ITS BYTES: the number; or (0, ErrSyntax); or (the greatest uint64, ErrRange). The world behind the call: the one new row that '[]byte(s)' lays. (LAID: no walk: one application.) -/
theorem Tryd.internal_strconv_ParseUint_10 (t : ByteArray) (hne : t.size ≠ 0) (hmax : t.size ≤ 9223372036854775806) (w : World) :
    Calls Tryd.prog 101 #[.string t, .int .i64 10, .int .i64 0] w fun e w' => e = .returned (Lib.uintTuple 161 (Lib.parseUint10 0 t.data.toList)) ∧ w' = Lib.bytesWorld w 5 t := Any.internal_strconv_ParseUint_10 Tryd.lays287 t hne hmax w
open Go.RowKit in
/-- internal/strconv.ParseUint("", 10, 0): (0, ErrSyntax). The world is as it was. (LAID: no walk: one application.) -/
theorem Tryd.internal_strconv_ParseUint_10_empty (w : World) :
    Calls Tryd.prog 101 #[.string ⟨#[]⟩, .int .i64 10, .int .i64 0] w fun e w' => e = .returned (Lib.uintTuple 161 .syntax) ∧ w' = w := Any.internal_strconv_ParseUint_10_empty Tryd.lays287 w
open Go.RowKit in
/-- internal/strconv.ParseUint(s, 10, 0): 'Lib.parseMag' OF ITS BYTES. The world: as it was (the empty string), or with the one new row that '[]byte(s)' lays. (LAID: no walk: one application.) -/
theorem Tryd.internal_strconv_ParseUint_10_any (t : ByteArray) (hmax : t.size ≤ 9223372036854775806) (w : World) :
    Calls Tryd.prog 101 #[.string t, .int .i64 10, .int .i64 0] w fun e w' => e = .returned (Lib.uintTuple 161 (Lib.parseMag t.data.toList)) ∧ (w' = w ∨ w' = Lib.bytesWorld w 5 t) := Any.internal_strconv_ParseUint_10_any Tryd.lays287 t hmax w
def Tryd.laysC247_ren : Go.Shelf.Ren := ⟨fun | 247 => 93 | 287 => 101 | 321 => 108 | 322 => 109 | n => n, fun | 9 => 9 | 3 => 3 | 2 => 2 | 75 => 53 | 4 => 4 | 167 => 161 | 5 => 5 | 53 => 29 | 175 => 88 | 46 => 68 | 37 => 26 | 0 => 0 | 21 => 21 | 80 => 203 | n => n, fun | n => n⟩
theorem Tryd.laysC247 : Go.Proofs.LaysC.n247 Tryd.prog Tryd.laysC247_ren := {
  mixed := by kernel_rfl
  f247 := Tryd.func93.trans (congrArg some (by kernel_rfl))
  f287 := Tryd.func101.trans (congrArg some (by kernel_rfl))
  f321 := Tryd.func108.trans (congrArg some (by kernel_rfl))
  f322 := Tryd.func109.trans (congrArg some (by kernel_rfl))
  t0 := Tryd.underlying0
  a0 := Tryd.isAgg0
  z0 := Tryd.sizeOf0
  v0 := Tryd.zeroValue0
  t2 := Tryd.underlying2
  a2 := Tryd.isAgg2
  z2 := Tryd.sizeOf2
  v2 := Tryd.zeroValue2
  t3 := Tryd.underlying3
  a3 := Tryd.isAgg3
  z3 := Tryd.sizeOf3
  v3 := Tryd.zeroValue3
  t4 := Tryd.underlying4
  a4 := Tryd.isAgg4
  z4 := Tryd.sizeOf4
  v4 := Tryd.zeroValue4
  t5 := Tryd.underlying5
  a5 := Tryd.isAgg5
  z5 := Tryd.sizeOf5
  v5 := Tryd.zeroValue5
  t9 := Tryd.underlying9
  a9 := Tryd.isAgg9
  z9 := Tryd.sizeOf9
  v9 := Tryd.zeroValue9
  t21 := Tryd.underlying21
  a21 := Tryd.isAgg21
  z21 := Tryd.sizeOf21
  v21 := Tryd.zeroValue21
  t37 := Tryd.underlying26
  a37 := Tryd.isAgg26
  z37 := Tryd.sizeOf26
  v37 := Tryd.zeroValue26
  t46 := Tryd.underlying68
  a46 := Tryd.isAgg68
  z46 := Tryd.sizeOf68
  v46 := Tryd.zeroValue68
  t53 := Tryd.underlying29
  a53 := Tryd.isAgg29
  z53 := Tryd.sizeOf29
  v53 := Tryd.zeroValue29
  t75 := Tryd.underlying53
  a75 := Tryd.isAgg53
  z75 := Tryd.sizeOf53
  v75 := Tryd.zeroValue53
  t167 := Tryd.underlying161
  a167 := Tryd.isAgg161
  z167 := Tryd.sizeOf161
  v167 := Tryd.zeroValue161
  t175 := Tryd.underlying88
  a175 := Tryd.isAgg88
  z175 := Tryd.sizeOf88
  v175 := Tryd.zeroValue88
  t80 := Tryd.underlying203
  a80 := Tryd.isAgg203
  z80 := Tryd.sizeOf203
  v80 := Tryd.zeroValue203
  i0 := by kernel_rfl
  i2 := by kernel_rfl
  i3 := by kernel_rfl
  i4 := by kernel_rfl
  i5 := by kernel_rfl
  i9 := by kernel_rfl
  i21 := by kernel_rfl
  i37 := by kernel_rfl
  i46 := by kernel_rfl
  i53 := by kernel_rfl
  i75 := by kernel_rfl
  i80 := by kernel_rfl
  i167 := by kernel_rfl
  i175 := by kernel_rfl
  c0 := by kernel_rfl
  c2 := by kernel_rfl
  c3 := by kernel_rfl
  c4 := by kernel_rfl
  c5 := by kernel_rfl
  c9 := by kernel_rfl
  c21 := by kernel_rfl
  c37 := by kernel_rfl
  c46 := by kernel_rfl
  c53 := by kernel_rfl
  c75 := by kernel_rfl
  c80 := by kernel_rfl
  c167 := by kernel_rfl
  c175 := by kernel_rfl }
open Go.RowKit in
/-- internal/strconv.ParseInt(s, 10, 0), s NOT EMPTY: 'Lib.atoiAll' OF ITS BYTES: (the number, nil); (0, ErrSyntax); (the greatest or the least int64 by the sign, ErrRange). The world: as it was, or with the one new row that '[]byte(..)' lays. (LAID: no walk: one application.) -/
theorem Tryd.internal_strconv_ParseInt_10 (s : ByteArray) (hne : s.size ≠ 0) (hmax : s.size ≤ 9223372036854775806) (w : World) :
    Calls Tryd.prog 93 #[.string s, .int .i64 10, .int .i64 0] w fun e w' => e = .returned (Lib.intTuple 161 (Lib.atoiSat s.data.toList) (Lib.atoiAll s.data.toList)) ∧ (w' = w ∨ ∃ t, w' = Lib.bytesWorld w 5 t) := Any.internal_strconv_ParseInt_10 Tryd.laysC247 s hne hmax w
def Tryd.laysM280_ren : Go.Shelf.Ren := ⟨fun | 280 => 103 | 316 => 110 | n => n, fun | 9 => 9 | 168 => 163 | 75 => 53 | 210 => 182 | 3 => 3 | 4 => 4 | 37 => 26 | 0 => 0 | 127 => 167 | 80 => 203 | 5 => 5 | n => n, fun | 16 => 11 | n => n⟩
theorem Tryd.laysM280 : Go.Proofs.LaysM.n280 Tryd.prog Tryd.laysM280_ren := {
  mixed := by kernel_rfl
  f280 := Tryd.func103.trans (congrArg some (by kernel_rfl))
  f316 := Tryd.func110.trans (congrArg some (by kernel_rfl))
  t0 := Tryd.underlying0
  a0 := Tryd.isAgg0
  z0 := Tryd.sizeOf0
  v0 := Tryd.zeroValue0
  t3 := Tryd.underlying3
  a3 := Tryd.isAgg3
  z3 := Tryd.sizeOf3
  v3 := Tryd.zeroValue3
  t4 := Tryd.underlying4
  a4 := Tryd.isAgg4
  z4 := Tryd.sizeOf4
  v4 := Tryd.zeroValue4
  t9 := Tryd.underlying9
  a9 := Tryd.isAgg9
  z9 := Tryd.sizeOf9
  v9 := Tryd.zeroValue9
  t37 := Tryd.underlying26
  a37 := Tryd.isAgg26
  z37 := Tryd.sizeOf26
  v37 := Tryd.zeroValue26
  t75 := Tryd.underlying53
  a75 := Tryd.isAgg53
  z75 := Tryd.sizeOf53
  v75 := Tryd.zeroValue53
  t127 := Tryd.underlying167
  a127 := Tryd.isAgg167
  z127 := Tryd.sizeOf167
  v127 := Tryd.zeroValue167
  t168 := Tryd.underlying163
  a168 := Tryd.isAgg163
  z168 := Tryd.sizeOf163
  v168 := Tryd.zeroValue163
  t210 := Tryd.underlying182
  a210 := Tryd.isAgg182
  z210 := Tryd.sizeOf182
  v210 := Tryd.zeroValue182
  g16 := by kernel_rfl
  t5 := Tryd.underlying5
  a5 := Tryd.isAgg5
  z5 := Tryd.sizeOf5
  v5 := Tryd.zeroValue5
  t80 := Tryd.underlying203
  a80 := Tryd.isAgg203
  z80 := Tryd.sizeOf203
  v80 := Tryd.zeroValue203
  i0 := by kernel_rfl
  i3 := by kernel_rfl
  i4 := by kernel_rfl
  i5 := by kernel_rfl
  i9 := by kernel_rfl
  i37 := by kernel_rfl
  i75 := by kernel_rfl
  i80 := by kernel_rfl
  i127 := by kernel_rfl
  i168 := by kernel_rfl
  i210 := by kernel_rfl
  m16 := by kernel_rfl }
open Go.RowKit in
/-- strconv.rangeError: '&NumError{fn, stringslite.Clone(str), ErrRange}': A POINTER TO A NEW BLOCK that holds fn, str's bytes, and what the variable ErrRange holds. Of what was there nothing has turned. (LAID: no walk: one application.) -/
theorem Tryd.strconv_rangeError (fn s : ByteArray) (ev : Value) (w : World) (hlim : s.size ≤ 281474976710656) (hv : w.cell? ⟨11, 0, none⟩ = some ev) (hev : ev = .nilIface ∨ ∃ te pe, ev = .iface te pe) :
    Calls Tryd.prog 103 #[.string fn, .string s] w fun e w' => ∃ N, e = .returned (.pointer (some ⟨N, 0, none⟩)) ∧ w.heap.size ≤ N ∧ w'.heap[N]? = some (.cells #[.string fn, .string s, ev] 182 (0, 0)) ∧ Below w.heap.size w w' := Any.strconv_rangeError Tryd.laysM280 fn s ev w hlim hv hev
open Go.RowKit in
/-- strconv.toError, at the inner package's ErrRange: 'rangeError(fn, s)' as an error: A *NumError IN A NEW BLOCK. (LAID: no walk: one application.) -/
theorem Tryd.strconv_toError_range (fn s : ByteArray) (base bits : Int) (ev : Value) (w : World) (hlim : s.size ≤ 281474976710656) (hv : w.cell? ⟨11, 0, none⟩ = some ev) (hev : ev = .nilIface ∨ ∃ te pe, ev = .iface te pe) :
    Calls Tryd.prog 94 #[.string fn, .string s, .int .i64 base, .int .i64 bits, .iface 161 (.int .i64 1)] w fun e w' => ∃ N, e = .returned (.iface 163 (.pointer (some ⟨N, 0, none⟩))) ∧ w.heap.size ≤ N ∧ w'.heap[N]? = some (.cells #[.string fn, .string s, ev] 182 (0, 0)) ∧ Below w.heap.size w w' := Any.strconv_toError_range Tryd.laysC245 fn s base bits ev w hlim hv hev
open Go.RowKit in
/-- internal/strconv.ParseUint("", base, bitSize): (0, ErrSyntax): the first test of the text. The world is as it was. (LAID: no walk: one application.) -/
theorem Tryd.internal_strconv_ParseUint_empty (base bits : Int) (w : World) :
    Calls Tryd.prog 101 #[.string ⟨#[]⟩, .int .i64 base, .int .i64 bits] w fun e w' => e = .returned (.tuple #[.int .u64 0, .iface 161 (.int .i64 2)]) ∧ w' = w := Any.internal_strconv_ParseUint_empty Tryd.lays287 base bits w
open Go.RowKit in
/-- internal/strconv.ParseUint(s, 10, 64), s NOT EMPTY: 'Lib.parseUint10 0' OF ITS BYTES: the number; or (0, ErrSyntax); or (the greatest uint64, ErrRange). The world behind the call: the one new row that '[]byte(s)' lays. (LAID: no walk: one application.) -/
theorem Tryd.internal_strconv_ParseUint_10_b64 (t : ByteArray) (hne : t.size ≠ 0) (hmax : t.size ≤ 9223372036854775806) (w : World) :
    Calls Tryd.prog 101 #[.string t, .int .i64 10, .int .i64 64] w fun e w' => e = .returned (Lib.uintTuple 161 (Lib.parseUint10 0 t.data.toList)) ∧ w' = Lib.bytesWorld w 5 t := Any.internal_strconv_ParseUint_10_b64 Tryd.lays287 t hne hmax w
open Go.RowKit in
/-- internal/strconv.ParseUint(s, 10, 32), s NOT EMPTY: 'Lib.parseUintM 4294967295 0' OF ITS BYTES: the number; or (0, ErrSyntax); or (the greatest uint32, ErrRange). The world behind the call: the one new row that '[]byte(s)' lays. (LAID: no walk: one application.) -/
theorem Tryd.internal_strconv_ParseUint_10_b32 (t : ByteArray) (hne : t.size ≠ 0) (hmax : t.size ≤ 9223372036854775806) (w : World) :
    Calls Tryd.prog 101 #[.string t, .int .i64 10, .int .i64 32] w fun e w' => e = .returned (Lib.uintTupleM 161 4294967295 (Lib.parseUintM 4294967295 0 t.data.toList)) ∧ w' = Lib.bytesWorld w 5 t := Any.internal_strconv_ParseUint_10_b32 Tryd.lays287 t hne hmax w
open Go.RowKit in
/-- internal/strconv.ParseUint(s, 10, 16), s NOT EMPTY: 'Lib.parseUintM 65535 0' OF ITS BYTES: the number; or (0, ErrSyntax); or (the greatest uint16, ErrRange). The world behind the call: the one new row that '[]byte(s)' lays. (LAID: no walk: one application.) -/
theorem Tryd.internal_strconv_ParseUint_10_b16 (t : ByteArray) (hne : t.size ≠ 0) (hmax : t.size ≤ 9223372036854775806) (w : World) :
    Calls Tryd.prog 101 #[.string t, .int .i64 10, .int .i64 16] w fun e w' => e = .returned (Lib.uintTupleM 161 65535 (Lib.parseUintM 65535 0 t.data.toList)) ∧ w' = Lib.bytesWorld w 5 t := Any.internal_strconv_ParseUint_10_b16 Tryd.lays287 t hne hmax w
open Go.RowKit in
/-- internal/strconv.ParseUint(s, 10, 8), s NOT EMPTY: 'Lib.parseUintM 255 0' OF ITS BYTES: the number; or (0, ErrSyntax); or (the greatest uint8, ErrRange). The world behind the call: the one new row that '[]byte(s)' lays. (LAID: no walk: one application.) -/
theorem Tryd.internal_strconv_ParseUint_10_b8 (t : ByteArray) (hne : t.size ≠ 0) (hmax : t.size ≤ 9223372036854775806) (w : World) :
    Calls Tryd.prog 101 #[.string t, .int .i64 10, .int .i64 8] w fun e w' => e = .returned (Lib.uintTupleM 161 255 (Lib.parseUintM 255 0 t.data.toList)) ∧ w' = Lib.bytesWorld w 5 t := Any.internal_strconv_ParseUint_10_b8 Tryd.lays287 t hne hmax w
open Go.RowKit in
/-- internal/strconv.ParseUint(s, 10, 0): 'Lib.parseUintB 64' OF ITS BYTES. The world: as it was (the empty string), or with the one new row that '[]byte(s)' lays. (LAID: no walk: one application.) -/
theorem Tryd.internal_strconv_ParseUint_10_at0 (t : ByteArray) (hmax : t.size ≤ 9223372036854775806) (w : World) :
    Calls Tryd.prog 101 #[.string t, .int .i64 10, .int .i64 0] w fun e w' => e = .returned (Lib.uintTupleM 161 18446744073709551615 (Lib.parseUintB 64 t.data.toList)) ∧ (w' = w ∨ w' = Lib.bytesWorld w 5 t) := Any.internal_strconv_ParseUint_10_at0 Tryd.lays287 t hmax w
open Go.RowKit in
/-- internal/strconv.ParseUint(s, 10, 64): 'Lib.parseUintB 64' OF ITS BYTES. The world: as it was (the empty string), or with the one new row that '[]byte(s)' lays. (LAID: no walk: one application.) -/
theorem Tryd.internal_strconv_ParseUint_10_at64 (t : ByteArray) (hmax : t.size ≤ 9223372036854775806) (w : World) :
    Calls Tryd.prog 101 #[.string t, .int .i64 10, .int .i64 64] w fun e w' => e = .returned (Lib.uintTupleM 161 18446744073709551615 (Lib.parseUintB 64 t.data.toList)) ∧ (w' = w ∨ w' = Lib.bytesWorld w 5 t) := Any.internal_strconv_ParseUint_10_at64 Tryd.lays287 t hmax w
open Go.RowKit in
/-- internal/strconv.ParseUint(s, 10, 32): 'Lib.parseUintB 32' OF ITS BYTES. The world: as it was (the empty string), or with the one new row that '[]byte(s)' lays. (LAID: no walk: one application.) -/
theorem Tryd.internal_strconv_ParseUint_10_at32 (t : ByteArray) (hmax : t.size ≤ 9223372036854775806) (w : World) :
    Calls Tryd.prog 101 #[.string t, .int .i64 10, .int .i64 32] w fun e w' => e = .returned (Lib.uintTupleM 161 4294967295 (Lib.parseUintB 32 t.data.toList)) ∧ (w' = w ∨ w' = Lib.bytesWorld w 5 t) := Any.internal_strconv_ParseUint_10_at32 Tryd.lays287 t hmax w
open Go.RowKit in
/-- internal/strconv.ParseUint(s, 10, 16): 'Lib.parseUintB 16' OF ITS BYTES. The world: as it was (the empty string), or with the one new row that '[]byte(s)' lays. (LAID: no walk: one application.) -/
theorem Tryd.internal_strconv_ParseUint_10_at16 (t : ByteArray) (hmax : t.size ≤ 9223372036854775806) (w : World) :
    Calls Tryd.prog 101 #[.string t, .int .i64 10, .int .i64 16] w fun e w' => e = .returned (Lib.uintTupleM 161 65535 (Lib.parseUintB 16 t.data.toList)) ∧ (w' = w ∨ w' = Lib.bytesWorld w 5 t) := Any.internal_strconv_ParseUint_10_at16 Tryd.lays287 t hmax w
open Go.RowKit in
/-- internal/strconv.ParseUint(s, 10, 8): 'Lib.parseUintB 8' OF ITS BYTES. The world: as it was (the empty string), or with the one new row that '[]byte(s)' lays. (LAID: no walk: one application.) -/
theorem Tryd.internal_strconv_ParseUint_10_at8 (t : ByteArray) (hmax : t.size ≤ 9223372036854775806) (w : World) :
    Calls Tryd.prog 101 #[.string t, .int .i64 10, .int .i64 8] w fun e w' => e = .returned (Lib.uintTupleM 161 255 (Lib.parseUintB 8 t.data.toList)) ∧ (w' = w ∨ w' = Lib.bytesWorld w 5 t) := Any.internal_strconv_ParseUint_10_at8 Tryd.lays287 t hmax w
open Go.RowKit in
/-- internal/strconv.ParseInt(s, 10, 64), s NOT EMPTY: 'Lib.parseIntB 64' OF ITS BYTES: (the number, nil); (0, ErrSyntax); (the greatest or the least int64 by the sign, ErrRange). The world: as it was, or with the one new row that '[]byte(..)' lays. (LAID: no walk: one application.) -/
theorem Tryd.internal_strconv_ParseInt_10_at64 (s : ByteArray) (hne : s.size ≠ 0) (hmax : s.size ≤ 9223372036854775806) (w : World) :
    Calls Tryd.prog 93 #[.string s, .int .i64 10, .int .i64 64] w fun e w' => e = .returned (Lib.intTuple 161 (Lib.intSat 64 s.data.toList) (Lib.parseIntB 64 s.data.toList)) ∧ (w' = w ∨ ∃ t, w' = Lib.bytesWorld w 5 t) := Any.internal_strconv_ParseInt_10_at64 Tryd.laysC247 s hne hmax w
open Go.RowKit in
/-- internal/strconv.ParseInt(s, 10, 32), s NOT EMPTY: 'Lib.parseIntB 32' OF ITS BYTES: (the number, nil); (0, ErrSyntax); (the greatest or the least int32 by the sign, ErrRange). The world: as it was, or with the one new row that '[]byte(..)' lays. (LAID: no walk: one application.) -/
theorem Tryd.internal_strconv_ParseInt_10_at32 (s : ByteArray) (hne : s.size ≠ 0) (hmax : s.size ≤ 9223372036854775806) (w : World) :
    Calls Tryd.prog 93 #[.string s, .int .i64 10, .int .i64 32] w fun e w' => e = .returned (Lib.intTuple 161 (Lib.intSat 32 s.data.toList) (Lib.parseIntB 32 s.data.toList)) ∧ (w' = w ∨ ∃ t, w' = Lib.bytesWorld w 5 t) := Any.internal_strconv_ParseInt_10_at32 Tryd.laysC247 s hne hmax w
open Go.RowKit in
/-- internal/strconv.ParseInt(s, 10, 16), s NOT EMPTY: 'Lib.parseIntB 16' OF ITS BYTES: (the number, nil); (0, ErrSyntax); (the greatest or the least int16 by the sign, ErrRange). The world: as it was, or with the one new row that '[]byte(..)' lays. (LAID: no walk: one application.) -/
theorem Tryd.internal_strconv_ParseInt_10_at16 (s : ByteArray) (hne : s.size ≠ 0) (hmax : s.size ≤ 9223372036854775806) (w : World) :
    Calls Tryd.prog 93 #[.string s, .int .i64 10, .int .i64 16] w fun e w' => e = .returned (Lib.intTuple 161 (Lib.intSat 16 s.data.toList) (Lib.parseIntB 16 s.data.toList)) ∧ (w' = w ∨ ∃ t, w' = Lib.bytesWorld w 5 t) := Any.internal_strconv_ParseInt_10_at16 Tryd.laysC247 s hne hmax w
open Go.RowKit in
/-- internal/strconv.ParseInt(s, 10, 8), s NOT EMPTY: 'Lib.parseIntB 8' OF ITS BYTES: (the number, nil); (0, ErrSyntax); (the greatest or the least int8 by the sign, ErrRange). The world: as it was, or with the one new row that '[]byte(..)' lays. (LAID: no walk: one application.) -/
theorem Tryd.internal_strconv_ParseInt_10_at8 (s : ByteArray) (hne : s.size ≠ 0) (hmax : s.size ≤ 9223372036854775806) (w : World) :
    Calls Tryd.prog 93 #[.string s, .int .i64 10, .int .i64 8] w fun e w' => e = .returned (Lib.intTuple 161 (Lib.intSat 8 s.data.toList) (Lib.parseIntB 8 s.data.toList)) ∧ (w' = w ∨ ∃ t, w' = Lib.bytesWorld w 5 t) := Any.internal_strconv_ParseInt_10_at8 Tryd.laysC247 s hne hmax w
open Go.RowKit in
/-- internal/strconv.ParseInt(s, 10, 0), AT EVERY STRING: 'Lib.parseIntB 64' OF ITS BYTES. (LAID: no walk: one application.) -/
theorem Tryd.internal_strconv_ParseInt_10_all0 (s : ByteArray) (hmax : s.size ≤ 9223372036854775806) (w : World) :
    Calls Tryd.prog 93 #[.string s, .int .i64 10, .int .i64 0] w fun e w' => e = .returned (Lib.intTuple 161 (Lib.intSat 64 s.data.toList) (Lib.parseIntB 64 s.data.toList)) ∧ (w' = w ∨ ∃ t, w' = Lib.bytesWorld w 5 t) := Any.internal_strconv_ParseInt_10_all0 Tryd.laysC247 s hmax w
open Go.RowKit in
/-- internal/strconv.ParseInt(s, 10, 64), AT EVERY STRING: 'Lib.parseIntB 64' OF ITS BYTES. (LAID: no walk: one application.) -/
theorem Tryd.internal_strconv_ParseInt_10_all64 (s : ByteArray) (hmax : s.size ≤ 9223372036854775806) (w : World) :
    Calls Tryd.prog 93 #[.string s, .int .i64 10, .int .i64 64] w fun e w' => e = .returned (Lib.intTuple 161 (Lib.intSat 64 s.data.toList) (Lib.parseIntB 64 s.data.toList)) ∧ (w' = w ∨ ∃ t, w' = Lib.bytesWorld w 5 t) := Any.internal_strconv_ParseInt_10_all64 Tryd.laysC247 s hmax w
open Go.RowKit in
/-- internal/strconv.ParseInt(s, 10, 32), AT EVERY STRING: 'Lib.parseIntB 32' OF ITS BYTES. (LAID: no walk: one application.) -/
theorem Tryd.internal_strconv_ParseInt_10_all32 (s : ByteArray) (hmax : s.size ≤ 9223372036854775806) (w : World) :
    Calls Tryd.prog 93 #[.string s, .int .i64 10, .int .i64 32] w fun e w' => e = .returned (Lib.intTuple 161 (Lib.intSat 32 s.data.toList) (Lib.parseIntB 32 s.data.toList)) ∧ (w' = w ∨ ∃ t, w' = Lib.bytesWorld w 5 t) := Any.internal_strconv_ParseInt_10_all32 Tryd.laysC247 s hmax w
open Go.RowKit in
/-- internal/strconv.ParseInt(s, 10, 16), AT EVERY STRING: 'Lib.parseIntB 16' OF ITS BYTES. (LAID: no walk: one application.) -/
theorem Tryd.internal_strconv_ParseInt_10_all16 (s : ByteArray) (hmax : s.size ≤ 9223372036854775806) (w : World) :
    Calls Tryd.prog 93 #[.string s, .int .i64 10, .int .i64 16] w fun e w' => e = .returned (Lib.intTuple 161 (Lib.intSat 16 s.data.toList) (Lib.parseIntB 16 s.data.toList)) ∧ (w' = w ∨ ∃ t, w' = Lib.bytesWorld w 5 t) := Any.internal_strconv_ParseInt_10_all16 Tryd.laysC247 s hmax w
open Go.RowKit in
/-- internal/strconv.ParseInt(s, 10, 8), AT EVERY STRING: 'Lib.parseIntB 8' OF ITS BYTES. (LAID: no walk: one application.) -/
theorem Tryd.internal_strconv_ParseInt_10_all8 (s : ByteArray) (hmax : s.size ≤ 9223372036854775806) (w : World) :
    Calls Tryd.prog 93 #[.string s, .int .i64 10, .int .i64 8] w fun e w' => e = .returned (Lib.intTuple 161 (Lib.intSat 8 s.data.toList) (Lib.parseIntB 8 s.data.toList)) ∧ (w' = w ∨ ∃ t, w' = Lib.bytesWorld w 5 t) := Any.internal_strconv_ParseInt_10_all8 Tryd.laysC247 s hmax w
def Tryd.laysC174_ren : Go.Shelf.Ren := ⟨fun | 174 => 77 | 247 => 93 | 245 => 94 | 287 => 101 | 279 => 102 | 280 => 103 | 281 => 104 | 282 => 105 | 321 => 108 | 322 => 109 | 316 => 110 | 171 => 111 | 205 => 107 | 243 => 112 | 246 => 113 | 283 => 114 | 284 => 115 | 285 => 116 | 286 => 117 | 129 => 119 | 317 => 118 | 318 => 120 | 319 => 121 | 320 => 122 | 337 => 123 | 338 => 124 | n => n, fun | 9 => 9 | 3 => 3 | 2 => 2 | 75 => 53 | 85 => 54 | 4 => 4 | 167 => 161 | 5 => 5 | 53 => 29 | 175 => 88 | 46 => 68 | 168 => 163 | 37 => 26 | 0 => 0 | 210 => 182 | 21 => 21 | 127 => 167 | 145 => 186 | 143 => 184 | 171 => 188 | 173 => 191 | 212 => 194 | 51 => 28 | 20 => 20 | 213 => 195 | 232 => 199 | 233 => 200 | 80 => 203 | n => n, fun | 15 => 10 | 16 => 11 | 17 => 12 | 18 => 13 | 19 => 14 | n => n⟩
theorem Tryd.laysC174 : Go.Proofs.LaysC.n174 Tryd.prog Tryd.laysC174_ren := {
  mixed := by kernel_rfl
  f129 := Tryd.func119.trans (congrArg some (by kernel_rfl))
  f171 := Tryd.func111.trans (congrArg some (by kernel_rfl))
  f174 := Tryd.func77.trans (congrArg some (by kernel_rfl))
  f205 := Tryd.func107.trans (congrArg some (by kernel_rfl))
  f243 := Tryd.func112.trans (congrArg some (by kernel_rfl))
  f245 := Tryd.func94.trans (congrArg some (by kernel_rfl))
  f246 := Tryd.func113.trans (congrArg some (by kernel_rfl))
  f247 := Tryd.func93.trans (congrArg some (by kernel_rfl))
  f279 := Tryd.func102.trans (congrArg some (by kernel_rfl))
  f280 := Tryd.func103.trans (congrArg some (by kernel_rfl))
  f281 := Tryd.func104.trans (congrArg some (by kernel_rfl))
  f282 := Tryd.func105.trans (congrArg some (by kernel_rfl))
  f283 := Tryd.func114.trans (congrArg some (by kernel_rfl))
  f284 := Tryd.func115.trans (congrArg some (by kernel_rfl))
  f285 := Tryd.func116.trans (congrArg some (by kernel_rfl))
  f286 := Tryd.func117.trans (congrArg some (by kernel_rfl))
  f287 := Tryd.func101.trans (congrArg some (by kernel_rfl))
  f316 := Tryd.func110.trans (congrArg some (by kernel_rfl))
  f317 := Tryd.func118.trans (congrArg some (by kernel_rfl))
  f318 := Tryd.func120.trans (congrArg some (by kernel_rfl))
  f319 := Tryd.func121.trans (congrArg some (by kernel_rfl))
  f320 := Tryd.func122.trans (congrArg some (by kernel_rfl))
  f321 := Tryd.func108.trans (congrArg some (by kernel_rfl))
  f322 := Tryd.func109.trans (congrArg some (by kernel_rfl))
  f337 := Tryd.func123.trans (congrArg some (by kernel_rfl))
  f338 := Tryd.func124.trans (congrArg some (by kernel_rfl))
  t0 := Tryd.underlying0
  a0 := Tryd.isAgg0
  z0 := Tryd.sizeOf0
  v0 := Tryd.zeroValue0
  t2 := Tryd.underlying2
  a2 := Tryd.isAgg2
  z2 := Tryd.sizeOf2
  v2 := Tryd.zeroValue2
  t3 := Tryd.underlying3
  a3 := Tryd.isAgg3
  z3 := Tryd.sizeOf3
  v3 := Tryd.zeroValue3
  t4 := Tryd.underlying4
  a4 := Tryd.isAgg4
  z4 := Tryd.sizeOf4
  v4 := Tryd.zeroValue4
  t5 := Tryd.underlying5
  a5 := Tryd.isAgg5
  z5 := Tryd.sizeOf5
  v5 := Tryd.zeroValue5
  t9 := Tryd.underlying9
  a9 := Tryd.isAgg9
  z9 := Tryd.sizeOf9
  v9 := Tryd.zeroValue9
  t20 := Tryd.underlying20
  a20 := Tryd.isAgg20
  z20 := Tryd.sizeOf20
  v20 := Tryd.zeroValue20
  t21 := Tryd.underlying21
  a21 := Tryd.isAgg21
  z21 := Tryd.sizeOf21
  v21 := Tryd.zeroValue21
  t37 := Tryd.underlying26
  a37 := Tryd.isAgg26
  z37 := Tryd.sizeOf26
  v37 := Tryd.zeroValue26
  t46 := Tryd.underlying68
  a46 := Tryd.isAgg68
  z46 := Tryd.sizeOf68
  v46 := Tryd.zeroValue68
  t51 := Tryd.underlying28
  a51 := Tryd.isAgg28
  z51 := Tryd.sizeOf28
  v51 := Tryd.zeroValue28
  t53 := Tryd.underlying29
  a53 := Tryd.isAgg29
  z53 := Tryd.sizeOf29
  v53 := Tryd.zeroValue29
  t75 := Tryd.underlying53
  a75 := Tryd.isAgg53
  z75 := Tryd.sizeOf53
  v75 := Tryd.zeroValue53
  t85 := Tryd.underlying54
  a85 := Tryd.isAgg54
  z85 := Tryd.sizeOf54
  v85 := Tryd.zeroValue54
  t127 := Tryd.underlying167
  a127 := Tryd.isAgg167
  z127 := Tryd.sizeOf167
  v127 := Tryd.zeroValue167
  t143 := Tryd.underlying184
  a143 := Tryd.isAgg184
  z143 := Tryd.sizeOf184
  v143 := Tryd.zeroValue184
  t145 := Tryd.underlying186
  a145 := Tryd.isAgg186
  z145 := Tryd.sizeOf186
  v145 := Tryd.zeroValue186
  t167 := Tryd.underlying161
  a167 := Tryd.isAgg161
  z167 := Tryd.sizeOf161
  v167 := Tryd.zeroValue161
  t168 := Tryd.underlying163
  a168 := Tryd.isAgg163
  z168 := Tryd.sizeOf163
  v168 := Tryd.zeroValue163
  t171 := Tryd.underlying188
  a171 := Tryd.isAgg188
  z171 := Tryd.sizeOf188
  v171 := Tryd.zeroValue188
  t173 := Tryd.underlying191
  a173 := Tryd.isAgg191
  z173 := Tryd.sizeOf191
  v173 := Tryd.zeroValue191
  t175 := Tryd.underlying88
  a175 := Tryd.isAgg88
  z175 := Tryd.sizeOf88
  v175 := Tryd.zeroValue88
  t210 := Tryd.underlying182
  a210 := Tryd.isAgg182
  z210 := Tryd.sizeOf182
  v210 := Tryd.zeroValue182
  t212 := Tryd.underlying194
  a212 := Tryd.isAgg194
  z212 := Tryd.sizeOf194
  v212 := Tryd.zeroValue194
  t213 := Tryd.underlying195
  a213 := Tryd.isAgg195
  z213 := Tryd.sizeOf195
  t232 := Tryd.underlying199
  a232 := Tryd.isAgg199
  z232 := Tryd.sizeOf199
  v232 := Tryd.zeroValue199
  t233 := Tryd.underlying200
  a233 := Tryd.isAgg200
  z233 := Tryd.sizeOf200
  v233 := Tryd.zeroValue200
  g15 := by kernel_rfl
  g16 := by kernel_rfl
  g17 := by kernel_rfl
  g18 := by kernel_rfl
  g19 := by kernel_rfl
  t80 := Tryd.underlying203
  a80 := Tryd.isAgg203
  z80 := Tryd.sizeOf203
  v80 := Tryd.zeroValue203
  i0 := by kernel_rfl
  i2 := by kernel_rfl
  i3 := by kernel_rfl
  i4 := by kernel_rfl
  i5 := by kernel_rfl
  i9 := by kernel_rfl
  i20 := by kernel_rfl
  i21 := by kernel_rfl
  i37 := by kernel_rfl
  i46 := by kernel_rfl
  i51 := by kernel_rfl
  i53 := by kernel_rfl
  i75 := by kernel_rfl
  i80 := by kernel_rfl
  i85 := by kernel_rfl
  i127 := by kernel_rfl
  i143 := by kernel_rfl
  i145 := by kernel_rfl
  i167 := by kernel_rfl
  i168 := by kernel_rfl
  i171 := by kernel_rfl
  i173 := by kernel_rfl
  i175 := by kernel_rfl
  i210 := by kernel_rfl
  i212 := by kernel_rfl
  i232 := by kernel_rfl
  i233 := by kernel_rfl
  m15 := by kernel_rfl
  m16 := by kernel_rfl
  m17 := by kernel_rfl
  m18 := by kernel_rfl
  m19 := by kernel_rfl
  c0 := by kernel_rfl
  c2 := by kernel_rfl
  c3 := by kernel_rfl
  c4 := by kernel_rfl
  c5 := by kernel_rfl
  c9 := by kernel_rfl
  c20 := by kernel_rfl
  c21 := by kernel_rfl
  c37 := by kernel_rfl
  c46 := by kernel_rfl
  c51 := by kernel_rfl
  c53 := by kernel_rfl
  c75 := by kernel_rfl
  c80 := by kernel_rfl
  c85 := by kernel_rfl
  c127 := by kernel_rfl
  c143 := by kernel_rfl
  c145 := by kernel_rfl
  c167 := by kernel_rfl
  c168 := by kernel_rfl
  c171 := by kernel_rfl
  c173 := by kernel_rfl
  c175 := by kernel_rfl
  c210 := by kernel_rfl
  c212 := by kernel_rfl
  c213 := by kernel_rfl
  c232 := by kernel_rfl
  c233 := by kernel_rfl }
open Go.RowKit in
/-- strconv.ParseInt(s, 10, 0), AT EVERY STRING THAT SPELLS AN int64 ('Lib.parseIntB 64 s.data.toList = .ok v'): v, AND NO ERROR. (LAID: no walk: one application.) -/
theorem Tryd.strconv_ParseInt_10_at0_ok (s : ByteArray) (hmax : s.size ≤ 9223372036854775806) (v : Int) (h : Lib.parseIntB 64 s.data.toList = .ok v) (w : World) :
    Calls Tryd.prog 77 #[.string s, .int .i64 10, .int .i64 0] w fun e w' => e = .returned (.tuple #[.int .i64 v, .nilIface]) ∧ (w' = w ∨ ∃ t, w' = Lib.bytesWorld w 5 t) := Any.strconv_ParseInt_10_at0_ok Tryd.laysC174 s hmax v h w
open Go.RowKit in
/-- strconv.ParseInt(s, 10, 0), AT EVERY STRING THAT IS NO DECIMAL NUMERAL: 0, AND AN ERROR THAT IS NOT nil: a *NumError in a new block N: {Func: "ParseInt", Num: s's bytes, Err: what the variable ErrSyntax holds}. Of what was there nothing has turned. (LAID: no walk: one application.) -/
theorem Tryd.strconv_ParseInt_10_at0_syntax (s : ByteArray) (hlim : s.size ≤ 281474976710656) (h : Lib.parseIntB 64 s.data.toList = .«syntax») (ev : Value) (w : World) (hv : w.cell? ⟨10, 0, none⟩ = some ev) (hev : ev = .nilIface ∨ ∃ te pe, ev = .iface te pe) :
    Calls Tryd.prog 77 #[.string s, .int .i64 10, .int .i64 0] w fun e w' => ∃ N, e = .returned (.tuple #[.int .i64 (0), .iface 163 (.pointer (some ⟨N, 0, none⟩))]) ∧ w.heap.size ≤ N ∧ w'.heap[N]? = some (.cells #[.string ⟨#[80, 97, 114, 115, 101, 73, 110, 116]⟩, .string s, ev] 182 (0, 0)) ∧ Below w.heap.size w w' := Any.strconv_ParseInt_10_at0_syntax Tryd.laysC174 s hlim h ev w hv hev
open Go.RowKit in
/-- strconv.ParseInt(s, 10, 0), AT EVERY NUMERAL THAT NO int64 HOLDS: THE GREATEST OR THE LEAST int64, BY THE SIGN ('Lib.intSat 64'), AND AN ERROR THAT IS NOT nil: a *NumError in a new block N: {Func: "ParseInt", Num: s's bytes, Err: what the variable ErrRange holds}. Of what was there nothing has turned. (LAID: no walk: one application.) -/
theorem Tryd.strconv_ParseInt_10_at0_range (s : ByteArray) (hlim : s.size ≤ 281474976710656) (h : Lib.parseIntB 64 s.data.toList = .range) (ev : Value) (w : World) (hv : w.cell? ⟨11, 0, none⟩ = some ev) (hev : ev = .nilIface ∨ ∃ te pe, ev = .iface te pe) :
    Calls Tryd.prog 77 #[.string s, .int .i64 10, .int .i64 0] w fun e w' => ∃ N, e = .returned (.tuple #[.int .i64 (Lib.intSat 64 s.data.toList), .iface 163 (.pointer (some ⟨N, 0, none⟩))]) ∧ w.heap.size ≤ N ∧ w'.heap[N]? = some (.cells #[.string ⟨#[80, 97, 114, 115, 101, 73, 110, 116]⟩, .string s, ev] 182 (0, 0)) ∧ Below w.heap.size w w' := Any.strconv_ParseInt_10_at0_range Tryd.laysC174 s hlim h ev w hv hev
open Go.RowKit in
/-- strconv.ParseInt(s, 10, 64), AT EVERY STRING THAT SPELLS AN int64 ('Lib.parseIntB 64 s.data.toList = .ok v'): v, AND NO ERROR. (LAID: no walk: one application.) -/
theorem Tryd.strconv_ParseInt_10_at64_ok (s : ByteArray) (hmax : s.size ≤ 9223372036854775806) (v : Int) (h : Lib.parseIntB 64 s.data.toList = .ok v) (w : World) :
    Calls Tryd.prog 77 #[.string s, .int .i64 10, .int .i64 64] w fun e w' => e = .returned (.tuple #[.int .i64 v, .nilIface]) ∧ (w' = w ∨ ∃ t, w' = Lib.bytesWorld w 5 t) := Any.strconv_ParseInt_10_at64_ok Tryd.laysC174 s hmax v h w
open Go.RowKit in
/-- strconv.ParseInt(s, 10, 64), AT EVERY STRING THAT IS NO DECIMAL NUMERAL: 0, AND AN ERROR THAT IS NOT nil: a *NumError in a new block N: {Func: "ParseInt", Num: s's bytes, Err: what the variable ErrSyntax holds}. Of what was there nothing has turned. (LAID: no walk: one application.) -/
theorem Tryd.strconv_ParseInt_10_at64_syntax (s : ByteArray) (hlim : s.size ≤ 281474976710656) (h : Lib.parseIntB 64 s.data.toList = .«syntax») (ev : Value) (w : World) (hv : w.cell? ⟨10, 0, none⟩ = some ev) (hev : ev = .nilIface ∨ ∃ te pe, ev = .iface te pe) :
    Calls Tryd.prog 77 #[.string s, .int .i64 10, .int .i64 64] w fun e w' => ∃ N, e = .returned (.tuple #[.int .i64 (0), .iface 163 (.pointer (some ⟨N, 0, none⟩))]) ∧ w.heap.size ≤ N ∧ w'.heap[N]? = some (.cells #[.string ⟨#[80, 97, 114, 115, 101, 73, 110, 116]⟩, .string s, ev] 182 (0, 0)) ∧ Below w.heap.size w w' := Any.strconv_ParseInt_10_at64_syntax Tryd.laysC174 s hlim h ev w hv hev
open Go.RowKit in
/-- strconv.ParseInt(s, 10, 64), AT EVERY NUMERAL THAT NO int64 HOLDS: THE GREATEST OR THE LEAST int64, BY THE SIGN ('Lib.intSat 64'), AND AN ERROR THAT IS NOT nil: a *NumError in a new block N: {Func: "ParseInt", Num: s's bytes, Err: what the variable ErrRange holds}. Of what was there nothing has turned. (LAID: no walk: one application.) -/
theorem Tryd.strconv_ParseInt_10_at64_range (s : ByteArray) (hlim : s.size ≤ 281474976710656) (h : Lib.parseIntB 64 s.data.toList = .range) (ev : Value) (w : World) (hv : w.cell? ⟨11, 0, none⟩ = some ev) (hev : ev = .nilIface ∨ ∃ te pe, ev = .iface te pe) :
    Calls Tryd.prog 77 #[.string s, .int .i64 10, .int .i64 64] w fun e w' => ∃ N, e = .returned (.tuple #[.int .i64 (Lib.intSat 64 s.data.toList), .iface 163 (.pointer (some ⟨N, 0, none⟩))]) ∧ w.heap.size ≤ N ∧ w'.heap[N]? = some (.cells #[.string ⟨#[80, 97, 114, 115, 101, 73, 110, 116]⟩, .string s, ev] 182 (0, 0)) ∧ Below w.heap.size w w' := Any.strconv_ParseInt_10_at64_range Tryd.laysC174 s hlim h ev w hv hev
open Go.RowKit in
/-- strconv.ParseInt(s, 10, 32), AT EVERY STRING THAT SPELLS AN int32 ('Lib.parseIntB 32 s.data.toList = .ok v'): v, AND NO ERROR. (LAID: no walk: one application.) -/
theorem Tryd.strconv_ParseInt_10_at32_ok (s : ByteArray) (hmax : s.size ≤ 9223372036854775806) (v : Int) (h : Lib.parseIntB 32 s.data.toList = .ok v) (w : World) :
    Calls Tryd.prog 77 #[.string s, .int .i64 10, .int .i64 32] w fun e w' => e = .returned (.tuple #[.int .i64 v, .nilIface]) ∧ (w' = w ∨ ∃ t, w' = Lib.bytesWorld w 5 t) := Any.strconv_ParseInt_10_at32_ok Tryd.laysC174 s hmax v h w
open Go.RowKit in
/-- strconv.ParseInt(s, 10, 32), AT EVERY STRING THAT IS NO DECIMAL NUMERAL: 0, AND AN ERROR THAT IS NOT nil: a *NumError in a new block N: {Func: "ParseInt", Num: s's bytes, Err: what the variable ErrSyntax holds}. Of what was there nothing has turned. (LAID: no walk: one application.) -/
theorem Tryd.strconv_ParseInt_10_at32_syntax (s : ByteArray) (hlim : s.size ≤ 281474976710656) (h : Lib.parseIntB 32 s.data.toList = .«syntax») (ev : Value) (w : World) (hv : w.cell? ⟨10, 0, none⟩ = some ev) (hev : ev = .nilIface ∨ ∃ te pe, ev = .iface te pe) :
    Calls Tryd.prog 77 #[.string s, .int .i64 10, .int .i64 32] w fun e w' => ∃ N, e = .returned (.tuple #[.int .i64 (0), .iface 163 (.pointer (some ⟨N, 0, none⟩))]) ∧ w.heap.size ≤ N ∧ w'.heap[N]? = some (.cells #[.string ⟨#[80, 97, 114, 115, 101, 73, 110, 116]⟩, .string s, ev] 182 (0, 0)) ∧ Below w.heap.size w w' := Any.strconv_ParseInt_10_at32_syntax Tryd.laysC174 s hlim h ev w hv hev
open Go.RowKit in
/-- strconv.ParseInt(s, 10, 32), AT EVERY NUMERAL THAT NO int32 HOLDS: THE GREATEST OR THE LEAST int32, BY THE SIGN ('Lib.intSat 32'), AND AN ERROR THAT IS NOT nil: a *NumError in a new block N: {Func: "ParseInt", Num: s's bytes, Err: what the variable ErrRange holds}. Of what was there nothing has turned. (LAID: no walk: one application.) -/
theorem Tryd.strconv_ParseInt_10_at32_range (s : ByteArray) (hlim : s.size ≤ 281474976710656) (h : Lib.parseIntB 32 s.data.toList = .range) (ev : Value) (w : World) (hv : w.cell? ⟨11, 0, none⟩ = some ev) (hev : ev = .nilIface ∨ ∃ te pe, ev = .iface te pe) :
    Calls Tryd.prog 77 #[.string s, .int .i64 10, .int .i64 32] w fun e w' => ∃ N, e = .returned (.tuple #[.int .i64 (Lib.intSat 32 s.data.toList), .iface 163 (.pointer (some ⟨N, 0, none⟩))]) ∧ w.heap.size ≤ N ∧ w'.heap[N]? = some (.cells #[.string ⟨#[80, 97, 114, 115, 101, 73, 110, 116]⟩, .string s, ev] 182 (0, 0)) ∧ Below w.heap.size w w' := Any.strconv_ParseInt_10_at32_range Tryd.laysC174 s hlim h ev w hv hev
open Go.RowKit in
/-- strconv.ParseInt(s, 10, 16), AT EVERY STRING THAT SPELLS AN int16 ('Lib.parseIntB 16 s.data.toList = .ok v'): v, AND NO ERROR. (LAID: no walk: one application.) -/
theorem Tryd.strconv_ParseInt_10_at16_ok (s : ByteArray) (hmax : s.size ≤ 9223372036854775806) (v : Int) (h : Lib.parseIntB 16 s.data.toList = .ok v) (w : World) :
    Calls Tryd.prog 77 #[.string s, .int .i64 10, .int .i64 16] w fun e w' => e = .returned (.tuple #[.int .i64 v, .nilIface]) ∧ (w' = w ∨ ∃ t, w' = Lib.bytesWorld w 5 t) := Any.strconv_ParseInt_10_at16_ok Tryd.laysC174 s hmax v h w
open Go.RowKit in
/-- strconv.ParseInt(s, 10, 16), AT EVERY STRING THAT IS NO DECIMAL NUMERAL: 0, AND AN ERROR THAT IS NOT nil: a *NumError in a new block N: {Func: "ParseInt", Num: s's bytes, Err: what the variable ErrSyntax holds}. Of what was there nothing has turned. (LAID: no walk: one application.) -/
theorem Tryd.strconv_ParseInt_10_at16_syntax (s : ByteArray) (hlim : s.size ≤ 281474976710656) (h : Lib.parseIntB 16 s.data.toList = .«syntax») (ev : Value) (w : World) (hv : w.cell? ⟨10, 0, none⟩ = some ev) (hev : ev = .nilIface ∨ ∃ te pe, ev = .iface te pe) :
    Calls Tryd.prog 77 #[.string s, .int .i64 10, .int .i64 16] w fun e w' => ∃ N, e = .returned (.tuple #[.int .i64 (0), .iface 163 (.pointer (some ⟨N, 0, none⟩))]) ∧ w.heap.size ≤ N ∧ w'.heap[N]? = some (.cells #[.string ⟨#[80, 97, 114, 115, 101, 73, 110, 116]⟩, .string s, ev] 182 (0, 0)) ∧ Below w.heap.size w w' := Any.strconv_ParseInt_10_at16_syntax Tryd.laysC174 s hlim h ev w hv hev
open Go.RowKit in
/-- strconv.ParseInt(s, 10, 16), AT EVERY NUMERAL THAT NO int16 HOLDS: THE GREATEST OR THE LEAST int16, BY THE SIGN ('Lib.intSat 16'), AND AN ERROR THAT IS NOT nil: a *NumError in a new block N: {Func: "ParseInt", Num: s's bytes, Err: what the variable ErrRange holds}. Of what was there nothing has turned. (LAID: no walk: one application.) -/
theorem Tryd.strconv_ParseInt_10_at16_range (s : ByteArray) (hlim : s.size ≤ 281474976710656) (h : Lib.parseIntB 16 s.data.toList = .range) (ev : Value) (w : World) (hv : w.cell? ⟨11, 0, none⟩ = some ev) (hev : ev = .nilIface ∨ ∃ te pe, ev = .iface te pe) :
    Calls Tryd.prog 77 #[.string s, .int .i64 10, .int .i64 16] w fun e w' => ∃ N, e = .returned (.tuple #[.int .i64 (Lib.intSat 16 s.data.toList), .iface 163 (.pointer (some ⟨N, 0, none⟩))]) ∧ w.heap.size ≤ N ∧ w'.heap[N]? = some (.cells #[.string ⟨#[80, 97, 114, 115, 101, 73, 110, 116]⟩, .string s, ev] 182 (0, 0)) ∧ Below w.heap.size w w' := Any.strconv_ParseInt_10_at16_range Tryd.laysC174 s hlim h ev w hv hev
open Go.RowKit in
/-- strconv.ParseInt(s, 10, 8), AT EVERY STRING THAT SPELLS AN int8 ('Lib.parseIntB 8 s.data.toList = .ok v'): v, AND NO ERROR. (LAID: no walk: one application.) -/
theorem Tryd.strconv_ParseInt_10_at8_ok (s : ByteArray) (hmax : s.size ≤ 9223372036854775806) (v : Int) (h : Lib.parseIntB 8 s.data.toList = .ok v) (w : World) :
    Calls Tryd.prog 77 #[.string s, .int .i64 10, .int .i64 8] w fun e w' => e = .returned (.tuple #[.int .i64 v, .nilIface]) ∧ (w' = w ∨ ∃ t, w' = Lib.bytesWorld w 5 t) := Any.strconv_ParseInt_10_at8_ok Tryd.laysC174 s hmax v h w
open Go.RowKit in
/-- strconv.ParseInt(s, 10, 8), AT EVERY STRING THAT IS NO DECIMAL NUMERAL: 0, AND AN ERROR THAT IS NOT nil: a *NumError in a new block N: {Func: "ParseInt", Num: s's bytes, Err: what the variable ErrSyntax holds}. Of what was there nothing has turned. (LAID: no walk: one application.) -/
theorem Tryd.strconv_ParseInt_10_at8_syntax (s : ByteArray) (hlim : s.size ≤ 281474976710656) (h : Lib.parseIntB 8 s.data.toList = .«syntax») (ev : Value) (w : World) (hv : w.cell? ⟨10, 0, none⟩ = some ev) (hev : ev = .nilIface ∨ ∃ te pe, ev = .iface te pe) :
    Calls Tryd.prog 77 #[.string s, .int .i64 10, .int .i64 8] w fun e w' => ∃ N, e = .returned (.tuple #[.int .i64 (0), .iface 163 (.pointer (some ⟨N, 0, none⟩))]) ∧ w.heap.size ≤ N ∧ w'.heap[N]? = some (.cells #[.string ⟨#[80, 97, 114, 115, 101, 73, 110, 116]⟩, .string s, ev] 182 (0, 0)) ∧ Below w.heap.size w w' := Any.strconv_ParseInt_10_at8_syntax Tryd.laysC174 s hlim h ev w hv hev
open Go.RowKit in
/-- strconv.ParseInt(s, 10, 8), AT EVERY NUMERAL THAT NO int8 HOLDS: THE GREATEST OR THE LEAST int8, BY THE SIGN ('Lib.intSat 8'), AND AN ERROR THAT IS NOT nil: a *NumError in a new block N: {Func: "ParseInt", Num: s's bytes, Err: what the variable ErrRange holds}. Of what was there nothing has turned. (LAID: no walk: one application.) -/
theorem Tryd.strconv_ParseInt_10_at8_range (s : ByteArray) (hlim : s.size ≤ 281474976710656) (h : Lib.parseIntB 8 s.data.toList = .range) (ev : Value) (w : World) (hv : w.cell? ⟨11, 0, none⟩ = some ev) (hev : ev = .nilIface ∨ ∃ te pe, ev = .iface te pe) :
    Calls Tryd.prog 77 #[.string s, .int .i64 10, .int .i64 8] w fun e w' => ∃ N, e = .returned (.tuple #[.int .i64 (Lib.intSat 8 s.data.toList), .iface 163 (.pointer (some ⟨N, 0, none⟩))]) ∧ w.heap.size ≤ N ∧ w'.heap[N]? = some (.cells #[.string ⟨#[80, 97, 114, 115, 101, 73, 110, 116]⟩, .string s, ev] 182 (0, 0)) ∧ Below w.heap.size w w' := Any.strconv_ParseInt_10_at8_range Tryd.laysC174 s hlim h ev w hv hev
def Tryd.lays187_ren : Go.Shelf.Ren := ⟨fun | 187 => 76 | 255 => 92 | n => n, fun | 37 => 26 | 5 => 5 | 3 => 3 | n => n, fun | n => n⟩
theorem Tryd.lays187 : Go.Proofs.Lays.n187 Tryd.prog Tryd.lays187_ren := {
  mixed := by kernel_rfl
  f187 := Tryd.func76.trans (congrArg some (by kernel_rfl))
  f255 := Tryd.func92.trans (congrArg some (by kernel_rfl))
  t3 := Tryd.underlying3
  a3 := Tryd.isAgg3
  z3 := Tryd.sizeOf3
  v3 := Tryd.zeroValue3
  t5 := Tryd.underlying5
  a5 := Tryd.isAgg5
  z5 := Tryd.sizeOf5
  v5 := Tryd.zeroValue5
  t37 := Tryd.underlying26
  a37 := Tryd.isAgg26
  z37 := Tryd.sizeOf26
  v37 := Tryd.zeroValue26 }
open Go.RowKit Go.Lib in
/-- bytes.IndexByte, b at whatever address: "IndexByte returns the index of the first instance of c in b, or -1 if c is not present in b." (LAID: no walk: one application.) -/
theorem Tryd.bytes_IndexByte_at (a : Addr) (n c : Nat) (xs : List Int) (cv : Int) (w : World) (hx : xs.length = n) (hc : ∀ i, i < n → w.cell? (a.add i) = some (.int .u8 (xs.getD i 0))) :
    Calls Tryd.prog 76 #[.slice (some a) n c, .int .u8 cv] w fun e w' => e = .returned (.int .i64 (Lib.indexByte (Lib.bytesOf xs) cv.toNat.toUInt8)) ∧ w' = w := Any.bytes_IndexByte_at Tryd.lays187 a n c xs cv w hx hc
open Go.Proofs Go.RowKit Go.Lib in
/-- bytes.IndexByte, the slice's bytes told by a ByteArray. (LAID: no walk: one application.) -/
theorem Tryd.bytes_IndexByte_bytes (b o cap : Nat) (t : ByteArray) (cv : Int) (w : World) (hc : Lib.Bytes w b o t) :
    Calls Tryd.prog 76 #[.slice (some ⟨b, o, none⟩) t.size cap, .int .u8 cv] w fun e w' => e = .returned (.int .i64 (Lib.indexByte t.data.toList cv.toNat.toUInt8)) ∧ w' = w := Any.bytes_IndexByte_bytes Tryd.lays187 b o cap t cv w hc
def Tryd.lays115_ren : Go.Shelf.Ren := ⟨fun | 115 => 62 | n => n, fun | 37 => 26 | 4 => 4 | 9 => 9 | 5 => 5 | n => n, fun | n => n⟩
theorem Tryd.lays115 : Go.Proofs.Lays.n115 Tryd.prog Tryd.lays115_ren := {
  mixed := by kernel_rfl
  f115 := Tryd.func62.trans (congrArg some (by kernel_rfl))
  t4 := Tryd.underlying4
  a4 := Tryd.isAgg4
  z4 := Tryd.sizeOf4
  v4 := Tryd.zeroValue4
  t9 := Tryd.underlying9
  a9 := Tryd.isAgg9
  z9 := Tryd.sizeOf9
  v9 := Tryd.zeroValue9
  t37 := Tryd.underlying26
  a37 := Tryd.isAgg26
  z37 := Tryd.sizeOf26
  v37 := Tryd.zeroValue26 }
open Go.Proofs Go.RowKit Go.Lib in
/-- bytes.Equal, each argument with what 'string(..)' of it gives. (LAID: no walk: one application.) -/
theorem Tryd.bytes_Equal_strs (v1 v2 : Value) (t1 t2 : ByteArray) (w : World) (h1 : (convert 26 9 v1).run Tryd.prog w = .ok (.string t1) w) (h2 : (convert 26 9 v2).run Tryd.prog w = .ok (.string t2) w) :
    Calls Tryd.prog 62 #[v1, v2] w fun e w' => e = .returned (.bool (t1.toList == t2.toList)) ∧ w' = w := Any.bytes_Equal_strs Tryd.lays115 v1 v2 t1 t2 w h1 h2
/-- bytes.Equal: "Equal reports whether a and b are the same length and contain the same bytes. A nil argument is equivalent to an empty slice.": IT RETURNS 'the bytes of the one == the bytes of the other'; the world is as it was. THE TWO ARGUMENTS COME AS WHATEVER VALUES, each with the one fact that the walk wants of it: what 'string(..)' of it gives: for a slice whose cells you know: 'run_convert_bytes_arg' (Derived/Laws/BytesArg.lean) hands that fact; for a nil one: 'run_convert_bytes_nil' (with xs := []). (LAID: no walk: one application.) -/
theorem Tryd.bytes_Equal (v1 v2 : Value) (xs ys : List Int) (w : World) (h1 : (convert 26 9 v1).run Tryd.prog w = .ok (.string (strOfNums xs)) w) (h2 : (convert 26 9 v2).run Tryd.prog w = .ok (.string (strOfNums ys)) w) :
    Calls Tryd.prog 62 #[v1, v2] w fun e w' => e = .returned (.bool (Lib.bytesOf xs == Lib.bytesOf ys)) ∧ w' = w := Any.bytes_Equal Tryd.lays115 v1 v2 xs ys w h1 h2
/-- bytes.IndexByte: "IndexByte returns the index of the first instance of c in b, or -1 if c is not present in b.": IT RETURNS 'Lib.indexByte (the bytes of b) c'; the world is as it was. 'xs': the numbers that the slice's cells hold. (LAID: no walk: one application.) -/
theorem Tryd.bytes_IndexByte (b o n c : Nat) (xs : List Int) (cv : Int) (w : World) (hx : xs.length = n) (hc : ∀ i, i < n → w.cell? ⟨b, o + i, none⟩ = some (.int .u8 (xs.getD i 0))) :
    Calls Tryd.prog 76 #[.slice (some ⟨b, o, none⟩) n c, .int .u8 cv] w fun e w' => e = .returned (.int .i64 (Lib.indexByte (Lib.bytesOf xs) cv.toNat.toUInt8)) ∧ w' = w := Any.bytes_IndexByte Tryd.lays187 b o n c xs cv w hx hc
/-- bytes.IndexByte AT nil: -1. (LAID: no walk: one application.) -/
theorem Tryd.bytes_IndexByte_nil (cv : Int) (w : World) :
    Calls Tryd.prog 76 #[.slice none 0 0, .int .u8 cv] w fun e w' => e = .returned (.int .i64 (-1)) ∧ w' = w := Any.bytes_IndexByte_nil Tryd.lays187 cv w
end Go.Proofs
