/-
  THE SHELF's CONTRACTS AT THIS DUMP, IN PLAIN WORDS (tools/lay-plain.mjs out of 'TryzShelf.lean', which tools/lay-shelf.mjs wrote): THE SAME DECLARATIONS UNDER THE SAME NAMES: 'import', 'namespace', 'open', 'def', 'theorem' AND NOTHING ELSE: no command of the shelf's: FOR A HAND-IN. Each laying: the table of numbers ('.._ren') and one theorem, a field a fact of the dump's own or the kernel's comparison; each contract: ONE APPLICATION.
-/
import Derived.Shelf.Strings.Builder1
import Derived.Shelf.Strings.Builder2
import Derived.Shelf.Strings.OnBuilder
import Derived.Shelf.Small.Utf8
import Derived.Shelf.Small.Bits
import Derived.Shelf.Small.Wraps
import Derived.Shelf.Strings.BuilderF
import Derived.Shelf.Strings.BuilderK
import Derived.Shelf.Strings.BuilderRune
import Derived.Shelf.Strconv.Atoi
import Derived.Shelf.Strconv.Itoa0
import Derived.Shelf.Strconv.Itoa1
import Derived.Shelf.LaysM
import Derived.Shelf.Strconv.Itoa2
import Derived.Shelf.Strconv.Itoa3
import Derived.Shelf.Strconv.AtoiErrFast
import Derived.Shelf.Strconv.ParseIntEmpty
import Derived.Shelf.Strconv.AtoiFail
import Derived.Shelf.Strconv.Clone
import Derived.Shelf.Strconv.SyntaxError
import Derived.Shelf.LaysC
import Derived.Shelf.Strconv.ToError
import Derived.Shelf.Strconv.Lower
import Derived.Shelf.Strconv.ParseUint10
import Derived.Shelf.Strconv.ParseUint10Empty
import Derived.Shelf.Strconv.ParseUint10Any
import Derived.Shelf.Strconv.ParseInt10
import Derived.Shelf.Strconv.AtoiLong
import Derived.Shelf.Strconv.AtoiInnerAll
import Derived.Shelf.Strconv.RangeError
import Derived.Shelf.Strconv.ToErrorRange
import Derived.Shelf.Strconv.AtoiAll
import Derived.Shelf.Strconv.ErrVarAll
import Derived.Shelf.Sort.Plain
import Derived.Shelf.GgClosure.StringsIndexFunc
import Derived.Shelf.GgClosure.StringsTrimFunc
import Derived.Shelf.GgClosure.StringsRunes
import Derived.Shelf.Strings.Prefix
import Derived.Shelf.Unicode.Decode
import Derived.Shelf.Bits.Mul64
import Derived.Shelf.Unicode.DecodeSlow
import Derived.Shelf.Unicode.DecodeAny
import Derived.Shelf.Unicode.DecodeLast
import Derived.Shelf.Strings.FuncGrows
import Derived.Ground.PaProg
import Derived.Shelf.Hex.Lens
import Derived.Shelf.Hex.Encode
import Derived.Shelf.Hex.Decode
import Derived.Shelf.Hex.DecodeOwns
import Derived.Shelf.Hex.More
import Derived.Test.YtcpijmbdibgdmaaGreatDoorProg
set_option linter.all false
namespace Go.Proofs
open Go.Shelf
def Tryz.lays169_ren : Go.Shelf.Ren := ⟨fun | 169 => 128 | n => n, fun | 70 => 193 | 9 => 9 | 0 => 0 | 72 => 195 | 37 => 40 | 127 => 206 | 3 => 3 | 5 => 5 | n => n, fun | n => n⟩
theorem Tryz.lays169 : Go.Proofs.Lays.n169 Tryz.prog Tryz.lays169_ren := {
  mixed := by kernel_rfl
  f169 := Tryz.func128.trans (congrArg some (by kernel_rfl))
  t0 := Tryz.underlying0
  a0 := Tryz.isAgg0
  z0 := Tryz.sizeOf0
  v0 := Tryz.zeroValue0
  t3 := Tryz.underlying3
  a3 := Tryz.isAgg3
  z3 := Tryz.sizeOf3
  v3 := Tryz.zeroValue3
  t9 := Tryz.underlying9
  a9 := Tryz.isAgg9
  z9 := Tryz.sizeOf9
  v9 := Tryz.zeroValue9
  t37 := Tryz.underlying40
  a37 := Tryz.isAgg40
  z37 := Tryz.sizeOf40
  v37 := Tryz.zeroValue40
  t70 := Tryz.underlying193
  a70 := Tryz.isAgg193
  z70 := Tryz.sizeOf193
  v70 := Tryz.zeroValue193
  t72 := Tryz.underlying195
  a72 := Tryz.isAgg195
  z72 := Tryz.sizeOf195
  v72 := Tryz.zeroValue195
  t127 := Tryz.underlying206
  a127 := Tryz.isAgg206
  z127 := Tryz.sizeOf206
  v127 := Tryz.zeroValue206 }
theorem Tryz.Builder_Extra_169 : Builder.Extra Tryz.prog Tryz.lays169_ren := {
  sizeBuilder := by kernel_rfl
  liesBuilder := by kernel_rfl
  t5 := Tryz.underlying5
  a5 := Tryz.isAgg5
  z5 := Tryz.sizeOf5
  v5 := Tryz.zeroValue5
  infoByte := by kernel_rfl
  cellsByte := by kernel_rfl
  sizeByte := by kernel_rfl
  neB5 := by decide }
open Go.RowKit in
/-- (*strings.Builder).String: "String returns the accumulated string.": OF A BUILDER THAT HOLDS AT LEAST ONE BYTE. ✋ THE MODEL FREEZES THOSE BYTES IN THE BUFFER (unsafe.String): a later write INTO them ends the model's run without an answer; a later append BEHIND them goes on. The statement's order of evaluation is drawn: one draw. (LAID: no walk: one application.) -/
theorem Tryz.Builder_String (B b : Nat) (l : List UInt8) (w : World) (h : Lib.IsBuilder 195 5 B b (Lib.byteCells l) w) (h0 : l ≠ []) :
    Calls Tryz.prog 128 #[.pointer (some ⟨b, 0, none⟩)] w fun e w' => e = .returned (.string ⟨l.toArray⟩) ∧ Below B w w' := Any.Builder_String Tryz.lays169 Tryz.Builder_Extra_169 B b l w h h0
open Go.RowKit in
/-- (*strings.Builder).String OF A BUILDER THAT HOLDS NO BYTE: the empty string. (Its buffer is nil, or a row of which it has taken nothing yet; where that row has NO capacity the model lays one new block for unsafe.SliceData's 'some address'.) One draw. (LAID: no walk: one application.) -/
theorem Tryz.Builder_String_empty (B b : Nat) (w : World) (h : Lib.IsBuilder 195 5 B b [] w) (hBw : B ≤ w.heap.size) :
    Calls Tryz.prog 128 #[.pointer (some ⟨b, 0, none⟩)] w fun e w' => e = .returned (.string ⟨#[]⟩) ∧ Below B w w' := Any.Builder_String_empty Tryz.lays169 Tryz.Builder_Extra_169 B b w h hBw
open Go.RowKit in
/-- (*strings.Builder).String: "String returns the accumulated string.": WHATEVER THE BUILDER HOLDS. (LAID: no walk: one application.) -/
theorem Tryz.Builder_String_any (B b : Nat) (l : List UInt8) (w : World) (h : Lib.IsBuilder 195 5 B b (Lib.byteCells l) w) (hBw : B ≤ w.heap.size) :
    Calls Tryz.prog 128 #[.pointer (some ⟨b, 0, none⟩)] w fun e w' => e = .returned (.string ⟨l.toArray⟩) ∧ Below B w w' := Any.Builder_String_any Tryz.lays169 Tryz.Builder_Extra_169 B b l w h hBw
def Tryz.lays241_ren : Go.Shelf.Ren := ⟨fun | 241 => 291 | 277 => 293 | n => n, fun | 70 => 193 | 3 => 3 | 0 => 0 | 72 => 195 | 37 => 40 | 5 => 5 | n => n, fun | n => n⟩
theorem Tryz.lays241 : Go.Proofs.Lays.n241 Tryz.prog Tryz.lays241_ren := {
  mixed := by kernel_rfl
  f241 := Tryz.func291.trans (congrArg some (by kernel_rfl))
  f277 := Tryz.func293.trans (congrArg some (by kernel_rfl))
  t0 := Tryz.underlying0
  a0 := Tryz.isAgg0
  z0 := Tryz.sizeOf0
  v0 := Tryz.zeroValue0
  t3 := Tryz.underlying3
  a3 := Tryz.isAgg3
  z3 := Tryz.sizeOf3
  v3 := Tryz.zeroValue3
  t37 := Tryz.underlying40
  a37 := Tryz.isAgg40
  z37 := Tryz.sizeOf40
  v37 := Tryz.zeroValue40
  t70 := Tryz.underlying193
  a70 := Tryz.isAgg193
  z70 := Tryz.sizeOf193
  v70 := Tryz.zeroValue193
  t72 := Tryz.underlying195
  a72 := Tryz.isAgg195
  z72 := Tryz.sizeOf195
  v72 := Tryz.zeroValue195 }
theorem Tryz.Builder_Extra_241 : Builder.Extra Tryz.prog Tryz.lays241_ren := {
  sizeBuilder := by kernel_rfl
  liesBuilder := by kernel_rfl
  t5 := Tryz.underlying5
  a5 := Tryz.isAgg5
  z5 := Tryz.sizeOf5
  v5 := Tryz.zeroValue5
  infoByte := by kernel_rfl
  cellsByte := by kernel_rfl
  sizeByte := by kernel_rfl
  neB5 := by decide }
open Go.RowKit in
/-- (*strings.Builder).grow (no doc but "grow copies the buffer to a new, larger buffer so that there are at least n bytes of capacity beyond len(b.buf)."): AT A BUILDER WITHOUT A BUFFER: a new row of whatever bytes for its buffer, none of them its own yet. Three draws. (LAID: no walk: one application.) -/
theorem Tryz.Builder_grow_fresh (B b n : Nat) (w : World) (hB : B ≤ b) (hbk : w.heap[b]? = some (.cells #[.pointer (some ⟨b, 0, none⟩), .slice none 0 0] 195 (0, 0))) (hBw : B ≤ w.heap.size) (hn : n ≤ 281474976710656) :
    Calls Tryz.prog 291 #[.pointer (some ⟨b, 0, none⟩), .int .i64 n] w fun e w' => e = .returned (.tuple #[]) ∧ (Lib.BuilderAt 195 5 B b (.pointer (some ⟨b, 0, none⟩)) [] w' ∧ Below B w w') := Any.Builder_grow_fresh Tryz.lays241 Tryz.Builder_Extra_241 B b n w hB hbk hBw hn
def Tryz.lays165_ren : Go.Shelf.Ren := ⟨fun | 165 => 287 | 240 => 166 | 241 => 291 | 276 => 220 | 277 => 293 | n => n, fun | 70 => 193 | 3 => 3 | 0 => 0 | 4 => 4 | 9 => 9 | 20 => 20 | 72 => 195 | 37 => 40 | 164 => 300 | 5 => 5 | n => n, fun | n => n⟩
theorem Tryz.lays165 : Go.Proofs.Lays.n165 Tryz.prog Tryz.lays165_ren := {
  mixed := by kernel_rfl
  f165 := Tryz.func287.trans (congrArg some (by kernel_rfl))
  f240 := Tryz.func166.trans (congrArg some (by kernel_rfl))
  f241 := Tryz.func291.trans (congrArg some (by kernel_rfl))
  f276 := Tryz.func220.trans (congrArg some (by kernel_rfl))
  f277 := Tryz.func293.trans (congrArg some (by kernel_rfl))
  t0 := Tryz.underlying0
  a0 := Tryz.isAgg0
  z0 := Tryz.sizeOf0
  v0 := Tryz.zeroValue0
  t3 := Tryz.underlying3
  a3 := Tryz.isAgg3
  z3 := Tryz.sizeOf3
  v3 := Tryz.zeroValue3
  t4 := Tryz.underlying4
  a4 := Tryz.isAgg4
  z4 := Tryz.sizeOf4
  v4 := Tryz.zeroValue4
  t9 := Tryz.underlying9
  a9 := Tryz.isAgg9
  z9 := Tryz.sizeOf9
  v9 := Tryz.zeroValue9
  t20 := Tryz.underlying20
  a20 := Tryz.isAgg20
  z20 := Tryz.sizeOf20
  v20 := Tryz.zeroValue20
  t37 := Tryz.underlying40
  a37 := Tryz.isAgg40
  z37 := Tryz.sizeOf40
  v37 := Tryz.zeroValue40
  t70 := Tryz.underlying193
  a70 := Tryz.isAgg193
  z70 := Tryz.sizeOf193
  v70 := Tryz.zeroValue193
  t72 := Tryz.underlying195
  a72 := Tryz.isAgg195
  z72 := Tryz.sizeOf195
  v72 := Tryz.zeroValue195
  t164 := Tryz.underlying300
  a164 := Tryz.isAgg300
  z164 := Tryz.sizeOf300
  v164 := Tryz.zeroValue300 }
theorem Tryz.Builder_Extra_165 : Builder.Extra Tryz.prog Tryz.lays165_ren := {
  sizeBuilder := by kernel_rfl
  liesBuilder := by kernel_rfl
  t5 := Tryz.underlying5
  a5 := Tryz.isAgg5
  z5 := Tryz.sizeOf5
  v5 := Tryz.zeroValue5
  infoByte := by kernel_rfl
  cellsByte := by kernel_rfl
  sizeByte := by kernel_rfl
  neB5 := by decide }
open Go.RowKit in
/-- (*strings.Builder).Grow AT A BUILDER THAT HAS NOT BEEN WRITTEN ('var b strings.Builder; b.Grow(n)'): "Grow grows b's capacity, if necessary, to guarantee space for another n bytes.": it holds no byte behind it as before it. (LAID: no walk: one application.) -/
theorem Tryz.Builder_Grow_fresh (B b n : Nat) (w : World) (hB : B ≤ b) (hbk : w.heap[b]? = some (.cells #[.pointer none, .slice none 0 0] 195 (0, 0))) (hBw : B ≤ w.heap.size) (hn : n ≤ 281474976710656) :
    Calls Tryz.prog 287 #[.pointer (some ⟨b, 0, none⟩), .int .i64 n] w fun e w' => e = .returned (.tuple #[]) ∧ (Lib.BuilderAt 195 5 B b (.pointer (some ⟨b, 0, none⟩)) [] w' ∧ Below B w w') := Any.Builder_Grow_fresh Tryz.lays165 Tryz.Builder_Extra_165 B b n w hB hbk hBw hn
def Tryz.lays156_ren : Go.Shelf.Ren := ⟨fun | 156 => 279 | 165 => 287 | 166 => 126 | 169 => 128 | 240 => 166 | 241 => 291 | 276 => 220 | 277 => 293 | n => n, fun | 31 => 25 | 9 => 9 | 3 => 3 | 4 => 4 | 0 => 0 | 20 => 20 | 72 => 195 | 76 => 83 | 70 => 193 | 37 => 40 | 75 => 71 | 127 => 206 | 164 => 300 | 5 => 5 | 80 => 67 | n => n, fun | n => n⟩
theorem Tryz.lays156 : Go.Proofs.Lays.n156 Tryz.prog Tryz.lays156_ren := {
  mixed := by kernel_rfl
  f156 := Tryz.func279.trans (congrArg some (by kernel_rfl))
  f165 := Tryz.func287.trans (congrArg some (by kernel_rfl))
  f166 := Tryz.func126.trans (congrArg some (by kernel_rfl))
  f169 := Tryz.func128.trans (congrArg some (by kernel_rfl))
  f240 := Tryz.func166.trans (congrArg some (by kernel_rfl))
  f241 := Tryz.func291.trans (congrArg some (by kernel_rfl))
  f276 := Tryz.func220.trans (congrArg some (by kernel_rfl))
  f277 := Tryz.func293.trans (congrArg some (by kernel_rfl))
  t0 := Tryz.underlying0
  a0 := Tryz.isAgg0
  z0 := Tryz.sizeOf0
  v0 := Tryz.zeroValue0
  t3 := Tryz.underlying3
  a3 := Tryz.isAgg3
  z3 := Tryz.sizeOf3
  v3 := Tryz.zeroValue3
  t4 := Tryz.underlying4
  a4 := Tryz.isAgg4
  z4 := Tryz.sizeOf4
  v4 := Tryz.zeroValue4
  t9 := Tryz.underlying9
  a9 := Tryz.isAgg9
  z9 := Tryz.sizeOf9
  v9 := Tryz.zeroValue9
  t20 := Tryz.underlying20
  a20 := Tryz.isAgg20
  z20 := Tryz.sizeOf20
  v20 := Tryz.zeroValue20
  t31 := Tryz.underlying25
  a31 := Tryz.isAgg25
  z31 := Tryz.sizeOf25
  v31 := Tryz.zeroValue25
  t37 := Tryz.underlying40
  a37 := Tryz.isAgg40
  z37 := Tryz.sizeOf40
  v37 := Tryz.zeroValue40
  t70 := Tryz.underlying193
  a70 := Tryz.isAgg193
  z70 := Tryz.sizeOf193
  v70 := Tryz.zeroValue193
  t72 := Tryz.underlying195
  a72 := Tryz.isAgg195
  z72 := Tryz.sizeOf195
  v72 := Tryz.zeroValue195
  t75 := Tryz.underlying71
  a75 := Tryz.isAgg71
  z75 := Tryz.sizeOf71
  v75 := Tryz.zeroValue71
  t76 := Tryz.underlying83
  a76 := Tryz.isAgg83
  z76 := Tryz.sizeOf83
  v76 := Tryz.zeroValue83
  t127 := Tryz.underlying206
  a127 := Tryz.isAgg206
  z127 := Tryz.sizeOf206
  v127 := Tryz.zeroValue206
  t164 := Tryz.underlying300
  a164 := Tryz.isAgg300
  z164 := Tryz.sizeOf300
  v164 := Tryz.zeroValue300 }
theorem Tryz.Builder_Extra_156 : Builder.Extra Tryz.prog Tryz.lays156_ren := {
  sizeBuilder := by kernel_rfl
  liesBuilder := by kernel_rfl
  t5 := Tryz.underlying5
  a5 := Tryz.isAgg5
  z5 := Tryz.sizeOf5
  v5 := Tryz.zeroValue5
  infoByte := by kernel_rfl
  cellsByte := by kernel_rfl
  sizeByte := by kernel_rfl
  neB5 := by decide }
open Go.RowKit in
/-- No element: the empty string; the world is as it was. (Whatever the slice's address and capacity: a nil slice too.) (LAID: no walk: one application.) -/
theorem Tryz.strings_Join_none (a : Option Addr) (c : Nat) (sep : ByteArray) (w : World) :
    Calls Tryz.prog 279 #[.slice a 0 c, .string sep] w fun e w' => e = .returned (.string ⟨#[]⟩) ∧ w' = w := Any.strings_Join_none Tryz.lays156 Tryz.Builder_Extra_156 a c sep w
open Go.RowKit in
/-- strings.Join: "Join concatenates the elements of its first argument to create a single string. The separator string sep is placed between elements in the resulting string.": HOWEVER MANY ELEMENTS. Below the heap's end the world is as it was. (LAID: no walk: one application.) -/
theorem Tryz.strings_Join (bk o c : Nat) (xs : List ByteArray) (sep : ByteArray) (w : World) (hcells : ∀ (j : Nat) x, xs[j]? = some x → w.cell? ⟨bk, o + j, none⟩ = some (.string x)) (hbk : bk < w.heap.size) (hN : xs.length ≤ 140737488355328) (hcap : xs.length ≤ c) (hlen : (Lib.join (xs.map (·.data.toList)) sep.data.toList).length ≤ 140737488355328) :
    Calls Tryz.prog 279 #[.slice (some ⟨bk, o, none⟩) xs.length c, .string sep] w fun e w' => e = .returned (.string ⟨(Lib.join (xs.map (·.data.toList)) sep.data.toList).toArray⟩) ∧ Below w.heap.size w w' := Any.strings_Join Tryz.lays156 Tryz.Builder_Extra_156 bk o c xs sep w hcells hbk hN hcap hlen
def Tryz.lays120_ren : Go.Shelf.Ren := ⟨fun | 120 => 252 | n => n, fun | 5 => 5 | 4 => 4 | n => n, fun | n => n⟩
theorem Tryz.lays120 : Go.Proofs.Lays.n120 Tryz.prog Tryz.lays120_ren := {
  mixed := by kernel_rfl
  f120 := Tryz.func252.trans (congrArg some (by kernel_rfl))
  t4 := Tryz.underlying4
  a4 := Tryz.isAgg4
  z4 := Tryz.sizeOf4
  v4 := Tryz.zeroValue4
  t5 := Tryz.underlying5
  a5 := Tryz.isAgg5
  z5 := Tryz.sizeOf5
  v5 := Tryz.zeroValue5 }
/-- utf8.RuneStart: "RuneStart reports whether the byte could be the first byte of an encoded, possibly invalid rune. Second and subsequent bytes always have the top two bits set to 10.": IT RETURNS 'Lib.runeStart b'; the world is as it was. ('h0', 'h1': b is a byte: a caller has it of every byte that it was handed.) (LAID: no walk: one application.) -/
theorem Tryz.utf8_RuneStart (b : Int) (w : World) (h0 : 0 ≤ b) (h1 : b < 256) :
    Calls Tryz.prog 252 #[.int .u8 b] w fun e w' => e = .returned (.bool (Lib.runeStart b)) ∧ w' = w := Any.utf8_RuneStart Tryz.lays120 b w h0 h1
def Tryz.lays128_ren : Go.Shelf.Ren := ⟨fun | 128 => 181 | n => n, fun | 51 => 226 | 3 => 3 | 4 => 4 | 46 => 161 | 5 => 5 | 9 => 9 | n => n, fun | n => n⟩
theorem Tryz.lays128 : Go.Proofs.Lays.n128 Tryz.prog Tryz.lays128_ren := {
  mixed := by kernel_rfl
  f128 := Tryz.func181.trans (congrArg some (by kernel_rfl))
  t3 := Tryz.underlying3
  a3 := Tryz.isAgg3
  z3 := Tryz.sizeOf3
  v3 := Tryz.zeroValue3
  t4 := Tryz.underlying4
  a4 := Tryz.isAgg4
  z4 := Tryz.sizeOf4
  v4 := Tryz.zeroValue4
  t5 := Tryz.underlying5
  a5 := Tryz.isAgg5
  z5 := Tryz.sizeOf5
  v5 := Tryz.zeroValue5
  t9 := Tryz.underlying9
  a9 := Tryz.isAgg9
  z9 := Tryz.sizeOf9
  v9 := Tryz.zeroValue9
  t46 := Tryz.underlying161
  a46 := Tryz.isAgg161
  z46 := Tryz.sizeOf161
  v46 := Tryz.zeroValue161
  t51 := Tryz.underlying226
  a51 := Tryz.isAgg226
  z51 := Tryz.sizeOf226
  v51 := Tryz.zeroValue226 }
/-- bits.Len32: "Len32 returns the minimum number of bits required to represent x; the result is 0 for x == 0.": IT RETURNS 'Lib.bitLen x'; the world is as it was. ('h0', 'h1': x is a uint32.) (LAID: no walk: one application.) -/
theorem Tryz.bits_Len32 (x : Int) (w : World) (h0 : 0 ≤ x) (h1 : x ≤ 4294967295) :
    Calls Tryz.prog 181 #[.int .u32 x] w fun e w' => e = .returned (.int .i64 (Lib.bitLen x.toNat)) ∧ w' = w := Any.bits_Len32 Tryz.lays128 x w h0 h1
def Tryz.lays125_ren : Go.Shelf.Ren := ⟨fun | 125 => 136 | 128 => 181 | 129 => 157 | n => n, fun | 46 => 161 | 3 => 3 | 51 => 226 | 53 => 158 | 4 => 4 | 5 => 5 | 9 => 9 | n => n, fun | n => n⟩
theorem Tryz.lays125 : Go.Proofs.Lays.n125 Tryz.prog Tryz.lays125_ren := {
  mixed := by kernel_rfl
  f125 := Tryz.func136.trans (congrArg some (by kernel_rfl))
  f128 := Tryz.func181.trans (congrArg some (by kernel_rfl))
  f129 := Tryz.func157.trans (congrArg some (by kernel_rfl))
  t3 := Tryz.underlying3
  a3 := Tryz.isAgg3
  z3 := Tryz.sizeOf3
  v3 := Tryz.zeroValue3
  t4 := Tryz.underlying4
  a4 := Tryz.isAgg4
  z4 := Tryz.sizeOf4
  v4 := Tryz.zeroValue4
  t5 := Tryz.underlying5
  a5 := Tryz.isAgg5
  z5 := Tryz.sizeOf5
  v5 := Tryz.zeroValue5
  t9 := Tryz.underlying9
  a9 := Tryz.isAgg9
  z9 := Tryz.sizeOf9
  v9 := Tryz.zeroValue9
  t46 := Tryz.underlying161
  a46 := Tryz.isAgg161
  z46 := Tryz.sizeOf161
  v46 := Tryz.zeroValue161
  t51 := Tryz.underlying226
  a51 := Tryz.isAgg226
  z51 := Tryz.sizeOf226
  v51 := Tryz.zeroValue226
  t53 := Tryz.underlying158
  a53 := Tryz.isAgg158
  z53 := Tryz.sizeOf158
  v53 := Tryz.zeroValue158 }
/-- bits.Len: "Len returns the minimum number of bits required to represent x; the result is 0 for x == 0.": IT RETURNS 'Lib.bitLen x'; the world is as it was. (A uint has 64 bits in the model.) ITS CALLEE bits.Len64 IS MET BY ITS OWN CONTRACT OFF THE SHELF (lay that first). (LAID: no walk: one application.) -/
theorem Tryz.bits_Len (x : Int) (w : World) (h0 : 0 ≤ x) (h1 : x ≤ 18446744073709551615) :
    Calls Tryz.prog 136 #[.int .u64 x] w fun e w' => e = .returned (.int .i64 (Lib.bitLen x.toNat)) ∧ w' = w := Any.bits_Len Tryz.lays125 x w h0 h1
def Tryz.lays214_ren : Go.Shelf.Ren := ⟨fun | 214 => 292 | n => n, fun | 4 => 4 | 9 => 9 | n => n, fun | n => n⟩
theorem Tryz.lays214 : Go.Proofs.Lays.n214 Tryz.prog Tryz.lays214_ren := {
  mixed := by kernel_rfl
  f214 := Tryz.func292.trans (congrArg some (by kernel_rfl))
  t4 := Tryz.underlying4
  a4 := Tryz.isAgg4
  z4 := Tryz.sizeOf4
  v4 := Tryz.zeroValue4
  t9 := Tryz.underlying9
  a9 := Tryz.isAgg9
  z9 := Tryz.sizeOf9
  v9 := Tryz.zeroValue9 }
open Go.RowKit in
/-- internal/strconv.FormatBool (what strconv.FormatBool calls). (LAID: no walk: one application.) -/
theorem Tryz.internal_strconv_FormatBool (b : Bool) (w : World) :
    Calls Tryz.prog 292 #[.bool b] w fun e w' => e = .returned (.string ⟨(Lib.formatBool b).toArray⟩) ∧ w' = w := Any.internal_strconv_FormatBool Tryz.lays214 b w
def Tryz.lays121_ren : Go.Shelf.Ren := ⟨fun | 121 => 290 | 214 => 292 | n => n, fun | 4 => 4 | 9 => 9 | n => n, fun | n => n⟩
theorem Tryz.lays121 : Go.Proofs.Lays.n121 Tryz.prog Tryz.lays121_ren := {
  mixed := by kernel_rfl
  f121 := Tryz.func290.trans (congrArg some (by kernel_rfl))
  f214 := Tryz.func292.trans (congrArg some (by kernel_rfl))
  t4 := Tryz.underlying4
  a4 := Tryz.isAgg4
  z4 := Tryz.sizeOf4
  v4 := Tryz.zeroValue4
  t9 := Tryz.underlying9
  a9 := Tryz.isAgg9
  z9 := Tryz.sizeOf9
  v9 := Tryz.zeroValue9 }
open Go.RowKit in
/-- strconv.FormatBool: "FormatBool returns "true" or "false" according to the value of b.": IT RETURNS 'Lib.formatBool b'; the world is as it was. (LAID: no walk: one application.) -/
theorem Tryz.strconv_FormatBool (b : Bool) (w : World) :
    Calls Tryz.prog 290 #[.bool b] w fun e w' => e = .returned (.string ⟨(Lib.formatBool b).toArray⟩) ∧ w' = w := Any.strconv_FormatBool Tryz.lays121 b w
open Go.RowKit in
/-- (*strings.Builder).String: "String returns the accumulated string.": OF A BUILDER THAT HOLDS AT LEAST ONE BYTE. ✋ THE MODEL FREEZES THOSE BYTES IN THE BUFFER (unsafe.String): a later write INTO them ends the model's run without an answer; a later append BEHIND them goes on. The statement's order of evaluation is drawn: one draw. THE FORM '_f': IT SAYS BESIDES THAT THE BUILDER IS A BUILDER STILL ('Lib.IsBuilderF', the same bytes): SO IT CAN BE WRITTEN ON: 'b.WriteString(b.String()[:k])'. (LAID: no walk: one application.) -/
theorem Tryz.Builder_String_f (B b : Nat) (l : List UInt8) (w : World) (h : Lib.IsBuilderF 195 5 B b (Lib.byteCells l) w) (h0 : l ≠ []) :
    Calls Tryz.prog 128 #[.pointer (some ⟨b, 0, none⟩)] w fun e w' => e = .returned (.string ⟨l.toArray⟩) ∧ (Lib.IsBuilderF 195 5 B b (Lib.byteCells l) w' ∧ Below B w w') := Any.Builder_String_f Tryz.lays169 Tryz.Builder_Extra_169 B b l w h h0
open Go.RowKit in
/-- (*strings.Builder).String OF A BUILDER THAT HOLDS NO BYTE: the empty string; THE FORM '_f': a builder still. (LAID: no walk: one application.) -/
theorem Tryz.Builder_String_empty_f (B b : Nat) (w : World) (h : Lib.IsBuilderF 195 5 B b [] w) (hBw : B ≤ w.heap.size) :
    Calls Tryz.prog 128 #[.pointer (some ⟨b, 0, none⟩)] w fun e w' => e = .returned (.string ⟨#[]⟩) ∧ (Lib.IsBuilderF 195 5 B b [] w' ∧ Below B w w') := Any.Builder_String_empty_f Tryz.lays169 Tryz.Builder_Extra_169 B b w h hBw
open Go.RowKit in
/-- (*strings.Builder).String: "String returns the accumulated string.": WHATEVER THE BUILDER HOLDS; THE FORM '_f': OF A BUILDER THAT MAY HAVE BEEN READ BEFORE; AND IT IS A BUILDER STILL, holding the same bytes: it can be written on. (LAID: no walk: one application.) -/
theorem Tryz.Builder_String_any_f (B b : Nat) (l : List UInt8) (w : World) (h : Lib.IsBuilderF 195 5 B b (Lib.byteCells l) w) (hBw : B ≤ w.heap.size) :
    Calls Tryz.prog 128 #[.pointer (some ⟨b, 0, none⟩)] w fun e w' => e = .returned (.string ⟨l.toArray⟩) ∧ (Lib.IsBuilderF 195 5 B b (Lib.byteCells l) w' ∧ Below B w w') := Any.Builder_String_any_f Tryz.lays169 Tryz.Builder_Extra_169 B b l w h hBw
open Go.RowKit in
/-- (*strings.Builder).String: "String returns the accumulated string.": OF A BUILDER THAT HOLDS AT LEAST ONE BYTE. ✋ THE MODEL FREEZES THOSE BYTES IN THE BUFFER (unsafe.String): a later write INTO them ends the model's run without an answer; a later append BEHIND them goes on. The statement's order of evaluation is drawn: one draw. THE FORM '_k': OVER 'Lib.IsBuilderF' (a builder that 'String()' may have read), AND WITH THE FRAME THAT REACHES ABOVE THE BUILDER: 'Lib.OthersKept': every block that is not b and is no row of uint8's stands as it stood: the iterator of a range among them. (LAID: no walk: one application.) -/
theorem Tryz.Builder_String_k (B b : Nat) (l : List UInt8) (w : World) (h : Lib.IsBuilderF 195 5 B b (Lib.byteCells l) w) (h0 : l ≠ []) :
    Calls Tryz.prog 128 #[.pointer (some ⟨b, 0, none⟩)] w fun e w' => e = .returned (.string ⟨l.toArray⟩) ∧ (Lib.IsBuilderF 195 5 B b (Lib.byteCells l) w' ∧ Below B w w' ∧ Lib.OthersKept 5 (some b) w w') := Any.Builder_String_k Tryz.lays169 Tryz.Builder_Extra_169 B b l w h h0
open Go.RowKit in
/-- (*strings.Builder).String OF A BUILDER THAT HOLDS NO BYTE: the empty string; THE FORM '_k': OVER 'Lib.IsBuilderF' (a builder that 'String()' may have read), AND WITH THE FRAME THAT REACHES ABOVE THE BUILDER: 'Lib.OthersKept': every block that is not b and is no row of uint8's stands as it stood: the iterator of a range among them. (LAID: no walk: one application.) -/
theorem Tryz.Builder_String_empty_k (B b : Nat) (w : World) (h : Lib.IsBuilderF 195 5 B b [] w) (hBw : B ≤ w.heap.size) :
    Calls Tryz.prog 128 #[.pointer (some ⟨b, 0, none⟩)] w fun e w' => e = .returned (.string ⟨#[]⟩) ∧ (Lib.IsBuilderF 195 5 B b [] w' ∧ Below B w w' ∧ Lib.OthersKept 5 (some b) w w') := Any.Builder_String_empty_k Tryz.lays169 Tryz.Builder_Extra_169 B b w h hBw
open Go.RowKit in
/-- (*strings.Builder).String: "String returns the accumulated string.": WHATEVER THE BUILDER HOLDS; THE FORM '_k': OVER 'Lib.IsBuilderF' (a builder that 'String()' may have read), AND WITH THE FRAME THAT REACHES ABOVE THE BUILDER: 'Lib.OthersKept': every block that is not b and is no row of uint8's stands as it stood: the iterator of a range among them. (LAID: no walk: one application.) -/
theorem Tryz.Builder_String_any_k (B b : Nat) (l : List UInt8) (w : World) (h : Lib.IsBuilderF 195 5 B b (Lib.byteCells l) w) (hBw : B ≤ w.heap.size) :
    Calls Tryz.prog 128 #[.pointer (some ⟨b, 0, none⟩)] w fun e w' => e = .returned (.string ⟨l.toArray⟩) ∧ (Lib.IsBuilderF 195 5 B b (Lib.byteCells l) w' ∧ Below B w w' ∧ Lib.OthersKept 5 (some b) w w') := Any.Builder_String_any_k Tryz.lays169 Tryz.Builder_Extra_169 B b l w h hBw
def Tryz.lays244_ren : Go.Shelf.Ren := ⟨fun | 244 => 69 | 247 => 88 | 287 => 105 | 321 => 133 | 322 => 134 | n => n, fun | 9 => 9 | 3 => 3 | 75 => 71 | 4 => 4 | 5 => 5 | 167 => 139 | 37 => 40 | 0 => 0 | 85 => 140 | 2 => 2 | 53 => 158 | 175 => 159 | 46 => 161 | 21 => 21 | 80 => 67 | n => n, fun | n => n⟩
theorem Tryz.lays244 : Go.Proofs.Lays.n244 Tryz.prog Tryz.lays244_ren := {
  mixed := by kernel_rfl
  f244 := Tryz.func69.trans (congrArg some (by kernel_rfl))
  f247 := Tryz.func88.trans (congrArg some (by kernel_rfl))
  f287 := Tryz.func105.trans (congrArg some (by kernel_rfl))
  f321 := Tryz.func133.trans (congrArg some (by kernel_rfl))
  f322 := Tryz.func134.trans (congrArg some (by kernel_rfl))
  t0 := Tryz.underlying0
  a0 := Tryz.isAgg0
  z0 := Tryz.sizeOf0
  v0 := Tryz.zeroValue0
  t2 := Tryz.underlying2
  a2 := Tryz.isAgg2
  z2 := Tryz.sizeOf2
  v2 := Tryz.zeroValue2
  t3 := Tryz.underlying3
  a3 := Tryz.isAgg3
  z3 := Tryz.sizeOf3
  v3 := Tryz.zeroValue3
  t4 := Tryz.underlying4
  a4 := Tryz.isAgg4
  z4 := Tryz.sizeOf4
  v4 := Tryz.zeroValue4
  t5 := Tryz.underlying5
  a5 := Tryz.isAgg5
  z5 := Tryz.sizeOf5
  v5 := Tryz.zeroValue5
  t9 := Tryz.underlying9
  a9 := Tryz.isAgg9
  z9 := Tryz.sizeOf9
  v9 := Tryz.zeroValue9
  t21 := Tryz.underlying21
  a21 := Tryz.isAgg21
  z21 := Tryz.sizeOf21
  v21 := Tryz.zeroValue21
  t37 := Tryz.underlying40
  a37 := Tryz.isAgg40
  z37 := Tryz.sizeOf40
  v37 := Tryz.zeroValue40
  t46 := Tryz.underlying161
  a46 := Tryz.isAgg161
  z46 := Tryz.sizeOf161
  v46 := Tryz.zeroValue161
  t53 := Tryz.underlying158
  a53 := Tryz.isAgg158
  z53 := Tryz.sizeOf158
  v53 := Tryz.zeroValue158
  t75 := Tryz.underlying71
  a75 := Tryz.isAgg71
  z75 := Tryz.sizeOf71
  v75 := Tryz.zeroValue71
  t85 := Tryz.underlying140
  a85 := Tryz.isAgg140
  z85 := Tryz.sizeOf140
  v85 := Tryz.zeroValue140
  t167 := Tryz.underlying139
  a167 := Tryz.isAgg139
  z167 := Tryz.sizeOf139
  v167 := Tryz.zeroValue139
  t175 := Tryz.underlying159
  a175 := Tryz.isAgg159
  z175 := Tryz.sizeOf159
  v175 := Tryz.zeroValue159 }
open Go.RowKit in
/-- internal/strconv.Atoi, at a decimal numeral of at most 18 bytes: ITS VALUE, AND NO ERROR. The world behind the call: the one new row that '[]byte(s)' lays. (LAID: no walk: one application.) -/
theorem Tryz.internal_strconv_Atoi (s : ByteArray) (n : Int) (hl : s.size ≤ 18) (h : Lib.atoi s.data.toList = some n) (w : World) :
    Calls Tryz.prog 69 #[.string s] w fun e w' => e = .returned (.tuple #[.int .i64 n, .nilIface]) ∧ ∃ t, w' = Lib.bytesWorld w 5 t := Any.internal_strconv_Atoi Tryz.lays244 s n hl h w
def Tryz.lays172_ren : Go.Shelf.Ren := ⟨fun | 172 => 34 | 244 => 69 | 245 => 70 | 247 => 88 | 279 => 89 | 280 => 90 | 281 => 91 | 282 => 92 | 287 => 105 | 316 => 106 | 171 => 66 | 205 => 107 | 321 => 133 | 322 => 134 | 243 => 87 | 246 => 104 | 283 => 129 | 284 => 130 | 285 => 131 | 286 => 132 | 129 => 157 | 317 => 160 | 318 => 169 | 319 => 170 | 320 => 171 | 337 => 221 | 338 => 222 | n => n, fun | 9 => 9 | 3 => 3 | 75 => 71 | 76 => 83 | 4 => 4 | 5 => 5 | 167 => 139 | 37 => 40 | 0 => 0 | 85 => 140 | 2 => 2 | 168 => 142 | 53 => 158 | 175 => 159 | 46 => 161 | 210 => 163 | 127 => 206 | 145 => 209 | 143 => 207 | 21 => 21 | 171 => 200 | 173 => 203 | 212 => 247 | 51 => 226 | 20 => 20 | 213 => 248 | 232 => 232 | 233 => 326 | 80 => 67 | n => n, fun | 15 => 2 | 16 => 3 | 17 => 10 | 18 => 24 | 19 => 25 | n => n⟩
theorem Tryz.lays172 : Go.Proofs.Lays.n172 Tryz.prog Tryz.lays172_ren := {
  mixed := by kernel_rfl
  f129 := Tryz.func157.trans (congrArg some (by kernel_rfl))
  f171 := Tryz.func66.trans (congrArg some (by kernel_rfl))
  f172 := Tryz.func34.trans (congrArg some (by kernel_rfl))
  f205 := Tryz.func107.trans (congrArg some (by kernel_rfl))
  f243 := Tryz.func87.trans (congrArg some (by kernel_rfl))
  f244 := Tryz.func69.trans (congrArg some (by kernel_rfl))
  f245 := Tryz.func70.trans (congrArg some (by kernel_rfl))
  f246 := Tryz.func104.trans (congrArg some (by kernel_rfl))
  f247 := Tryz.func88.trans (congrArg some (by kernel_rfl))
  f279 := Tryz.func89.trans (congrArg some (by kernel_rfl))
  f280 := Tryz.func90.trans (congrArg some (by kernel_rfl))
  f281 := Tryz.func91.trans (congrArg some (by kernel_rfl))
  f282 := Tryz.func92.trans (congrArg some (by kernel_rfl))
  f283 := Tryz.func129.trans (congrArg some (by kernel_rfl))
  f284 := Tryz.func130.trans (congrArg some (by kernel_rfl))
  f285 := Tryz.func131.trans (congrArg some (by kernel_rfl))
  f286 := Tryz.func132.trans (congrArg some (by kernel_rfl))
  f287 := Tryz.func105.trans (congrArg some (by kernel_rfl))
  f316 := Tryz.func106.trans (congrArg some (by kernel_rfl))
  f317 := Tryz.func160.trans (congrArg some (by kernel_rfl))
  f318 := Tryz.func169.trans (congrArg some (by kernel_rfl))
  f319 := Tryz.func170.trans (congrArg some (by kernel_rfl))
  f320 := Tryz.func171.trans (congrArg some (by kernel_rfl))
  f321 := Tryz.func133.trans (congrArg some (by kernel_rfl))
  f322 := Tryz.func134.trans (congrArg some (by kernel_rfl))
  f337 := Tryz.func221.trans (congrArg some (by kernel_rfl))
  f338 := Tryz.func222.trans (congrArg some (by kernel_rfl))
  t0 := Tryz.underlying0
  a0 := Tryz.isAgg0
  z0 := Tryz.sizeOf0
  v0 := Tryz.zeroValue0
  t2 := Tryz.underlying2
  a2 := Tryz.isAgg2
  z2 := Tryz.sizeOf2
  v2 := Tryz.zeroValue2
  t3 := Tryz.underlying3
  a3 := Tryz.isAgg3
  z3 := Tryz.sizeOf3
  v3 := Tryz.zeroValue3
  t4 := Tryz.underlying4
  a4 := Tryz.isAgg4
  z4 := Tryz.sizeOf4
  v4 := Tryz.zeroValue4
  t5 := Tryz.underlying5
  a5 := Tryz.isAgg5
  z5 := Tryz.sizeOf5
  v5 := Tryz.zeroValue5
  t9 := Tryz.underlying9
  a9 := Tryz.isAgg9
  z9 := Tryz.sizeOf9
  v9 := Tryz.zeroValue9
  t20 := Tryz.underlying20
  a20 := Tryz.isAgg20
  z20 := Tryz.sizeOf20
  v20 := Tryz.zeroValue20
  t21 := Tryz.underlying21
  a21 := Tryz.isAgg21
  z21 := Tryz.sizeOf21
  v21 := Tryz.zeroValue21
  t37 := Tryz.underlying40
  a37 := Tryz.isAgg40
  z37 := Tryz.sizeOf40
  v37 := Tryz.zeroValue40
  t46 := Tryz.underlying161
  a46 := Tryz.isAgg161
  z46 := Tryz.sizeOf161
  v46 := Tryz.zeroValue161
  t51 := Tryz.underlying226
  a51 := Tryz.isAgg226
  z51 := Tryz.sizeOf226
  v51 := Tryz.zeroValue226
  t53 := Tryz.underlying158
  a53 := Tryz.isAgg158
  z53 := Tryz.sizeOf158
  v53 := Tryz.zeroValue158
  t75 := Tryz.underlying71
  a75 := Tryz.isAgg71
  z75 := Tryz.sizeOf71
  v75 := Tryz.zeroValue71
  t76 := Tryz.underlying83
  a76 := Tryz.isAgg83
  z76 := Tryz.sizeOf83
  v76 := Tryz.zeroValue83
  t85 := Tryz.underlying140
  a85 := Tryz.isAgg140
  z85 := Tryz.sizeOf140
  v85 := Tryz.zeroValue140
  t127 := Tryz.underlying206
  a127 := Tryz.isAgg206
  z127 := Tryz.sizeOf206
  v127 := Tryz.zeroValue206
  t143 := Tryz.underlying207
  a143 := Tryz.isAgg207
  z143 := Tryz.sizeOf207
  v143 := Tryz.zeroValue207
  t145 := Tryz.underlying209
  a145 := Tryz.isAgg209
  z145 := Tryz.sizeOf209
  v145 := Tryz.zeroValue209
  t167 := Tryz.underlying139
  a167 := Tryz.isAgg139
  z167 := Tryz.sizeOf139
  v167 := Tryz.zeroValue139
  t168 := Tryz.underlying142
  a168 := Tryz.isAgg142
  z168 := Tryz.sizeOf142
  v168 := Tryz.zeroValue142
  t171 := Tryz.underlying200
  a171 := Tryz.isAgg200
  z171 := Tryz.sizeOf200
  v171 := Tryz.zeroValue200
  t173 := Tryz.underlying203
  a173 := Tryz.isAgg203
  z173 := Tryz.sizeOf203
  v173 := Tryz.zeroValue203
  t175 := Tryz.underlying159
  a175 := Tryz.isAgg159
  z175 := Tryz.sizeOf159
  v175 := Tryz.zeroValue159
  t210 := Tryz.underlying163
  a210 := Tryz.isAgg163
  z210 := Tryz.sizeOf163
  v210 := Tryz.zeroValue163
  t212 := Tryz.underlying247
  a212 := Tryz.isAgg247
  z212 := Tryz.sizeOf247
  v212 := Tryz.zeroValue247
  t213 := Tryz.underlying248
  a213 := Tryz.isAgg248
  z213 := Tryz.sizeOf248
  t232 := Tryz.underlying232
  a232 := Tryz.isAgg232
  z232 := Tryz.sizeOf232
  v232 := Tryz.zeroValue232
  t233 := Tryz.underlying326
  a233 := Tryz.isAgg326
  z233 := Tryz.sizeOf326
  v233 := Tryz.zeroValue326
  g15 := by kernel_rfl
  g16 := by kernel_rfl
  g17 := by kernel_rfl
  g18 := by kernel_rfl
  g19 := by kernel_rfl }
open Go.RowKit in
/-- strconv.Atoi: "Atoi is equivalent to ParseInt(s, 10, 0), converted to type int.": AT A DECIMAL NUMERAL OF AT MOST 18 BYTES: its value, and a nil error. The world behind the call: the one new row that the library's '[]byte(s)' lays. (LAID: no walk: one application.) -/
theorem Tryz.strconv_Atoi (s : ByteArray) (n : Int) (hl : s.size ≤ 18) (h : Lib.atoi s.data.toList = some n) (w : World) :
    Calls Tryz.prog 34 #[.string s] w fun e w' => e = .returned (.tuple #[.int .i64 n, .nilIface]) ∧ ∃ t, w' = Lib.bytesWorld w 5 t := Any.strconv_Atoi Tryz.lays172 s n hl h w
def Tryz.lays129_ren : Go.Shelf.Ren := ⟨fun | 129 => 157 | n => n, fun | 53 => 158 | 3 => 3 | 4 => 4 | 46 => 161 | 5 => 5 | 9 => 9 | n => n, fun | n => n⟩
theorem Tryz.lays129 : Go.Proofs.Lays.n129 Tryz.prog Tryz.lays129_ren := {
  mixed := by kernel_rfl
  f129 := Tryz.func157.trans (congrArg some (by kernel_rfl))
  t3 := Tryz.underlying3
  a3 := Tryz.isAgg3
  z3 := Tryz.sizeOf3
  v3 := Tryz.zeroValue3
  t4 := Tryz.underlying4
  a4 := Tryz.isAgg4
  z4 := Tryz.sizeOf4
  v4 := Tryz.zeroValue4
  t5 := Tryz.underlying5
  a5 := Tryz.isAgg5
  z5 := Tryz.sizeOf5
  v5 := Tryz.zeroValue5
  t9 := Tryz.underlying9
  a9 := Tryz.isAgg9
  z9 := Tryz.sizeOf9
  v9 := Tryz.zeroValue9
  t46 := Tryz.underlying161
  a46 := Tryz.isAgg161
  z46 := Tryz.sizeOf161
  v46 := Tryz.zeroValue161
  t53 := Tryz.underlying158
  a53 := Tryz.isAgg158
  z53 := Tryz.sizeOf158
  v53 := Tryz.zeroValue158 }
/-- bits.Len64: "Len64 returns the minimum number of bits required to represent x; the result is 0 for x == 0.": IT RETURNS 'Lib.bitLen x'; the world is as it was. ('h0', 'h1': x is a uint64.) (LAID: no walk: one application.) -/
theorem Tryz.bits_Len64 (x : Int) (w : World) (h0 : 0 ≤ x) (h1 : x ≤ 18446744073709551615) :
    Calls Tryz.prog 157 #[.int .u64 x] w fun e w' => e = .returned (.int .i64 (Lib.bitLen x.toNat)) ∧ w' = w := Any.bits_Len64 Tryz.lays129 x w h0 h1
def Tryz.lays317_ren : Go.Shelf.Ren := ⟨fun | 317 => 160 | n => n, fun | 3 => 3 | 46 => 161 | n => n, fun | n => n⟩
theorem Tryz.lays317 : Go.Proofs.Lays.n317 Tryz.prog Tryz.lays317_ren := {
  mixed := by kernel_rfl
  f317 := Tryz.func160.trans (congrArg some (by kernel_rfl))
  t3 := Tryz.underlying3
  a3 := Tryz.isAgg3
  z3 := Tryz.sizeOf3
  v3 := Tryz.zeroValue3
  t46 := Tryz.underlying161
  a46 := Tryz.isAgg161
  z46 := Tryz.sizeOf161
  v46 := Tryz.zeroValue161 }
open Go.Lib in
/-- internal/strconv.log10Pow2: "log10Pow2(x) returns ⌊log₁₀ 2**x⌋ = ⌊x * log₁₀ 2⌋.": '(x * 78913) >> 18', at an x up to 64 (a length in bits). The world is as it was. (LAID: no walk: one application.) -/
theorem Tryz.internal_strconv_log10Pow2 (x : Nat) (h : x ≤ 64) (w : World) :
    Calls Tryz.prog 160 #[.int .i64 x] w fun e w' => e = .returned (.int .i64 (Lib.l10 x)) ∧ w' = w := Any.internal_strconv_log10Pow2 Tryz.lays317 x h w
def Tryz.lays318_ren : Go.Shelf.Ren := ⟨fun | 318 => 169 | n => n, fun | 3 => 3 | 4 => 4 | n => n, fun | n => n⟩
theorem Tryz.lays318 : Go.Proofs.Lays.n318 Tryz.prog Tryz.lays318_ren := {
  mixed := by kernel_rfl
  f318 := Tryz.func169.trans (congrArg some (by kernel_rfl))
  t3 := Tryz.underlying3
  a3 := Tryz.isAgg3
  z3 := Tryz.sizeOf3
  v3 := Tryz.zeroValue3
  t4 := Tryz.underlying4
  a4 := Tryz.isAgg4
  z4 := Tryz.sizeOf4
  v4 := Tryz.zeroValue4 }
open Go.Lib in
/-- internal/strconv.bool2: "bool2 converts b to an integer: 1 for true, 0 for false." The world is as it was. (LAID: no walk: one application.) -/
theorem Tryz.internal_strconv_bool2_int (b : Bool) (w : World) :
    Calls Tryz.prog 169 #[.bool b] w fun e w' => e = .returned (.int .i64 (if b then 1 else 0)) ∧ w' = w := Any.internal_strconv_bool2_int Tryz.lays318 b w
def Tryz.lays283_ren : Go.Shelf.Ren := ⟨fun | 283 => 129 | n => n, fun | 3 => 3 | 9 => 9 | 4 => 4 | n => n, fun | n => n⟩
theorem Tryz.lays283 : Go.Proofs.Lays.n283 Tryz.prog Tryz.lays283_ren := {
  mixed := by kernel_rfl
  f283 := Tryz.func129.trans (congrArg some (by kernel_rfl))
  t3 := Tryz.underlying3
  a3 := Tryz.isAgg3
  z3 := Tryz.sizeOf3
  v3 := Tryz.zeroValue3
  t4 := Tryz.underlying4
  a4 := Tryz.isAgg4
  z4 := Tryz.sizeOf4
  v4 := Tryz.zeroValue4
  t9 := Tryz.underlying9
  a9 := Tryz.isAgg9
  z9 := Tryz.sizeOf9
  v9 := Tryz.zeroValue9 }
open Go.Lib in
/-- internal/strconv.small: "small returns the string for an i with 0 <= i < nSmalls.": i's decimal numeral. The world is as it was. (LAID: no walk: one application.) -/
theorem Tryz.internal_strconv_small (i : Nat) (h : i < 100) (w : World) :
    Calls Tryz.prog 129 #[.int .i64 i] w fun e w' => e = .returned (.string ⟨(Lib.decDigits i).toArray⟩) ∧ w' = w := Any.internal_strconv_small Tryz.lays283 i h w
def Tryz.laysM284_ren : Go.Shelf.Ren := ⟨fun | 284 => 130 | 129 => 157 | 317 => 160 | 318 => 169 | n => n, fun | 53 => 158 | 3 => 3 | 212 => 247 | 0 => 0 | 4 => 4 | 46 => 161 | 5 => 5 | 9 => 9 | n => n, fun | 17 => 10 | n => n⟩
theorem Tryz.laysM284 : Go.Proofs.LaysM.n284 Tryz.prog Tryz.laysM284_ren := {
  mixed := by kernel_rfl
  f129 := Tryz.func157.trans (congrArg some (by kernel_rfl))
  f284 := Tryz.func130.trans (congrArg some (by kernel_rfl))
  f317 := Tryz.func160.trans (congrArg some (by kernel_rfl))
  f318 := Tryz.func169.trans (congrArg some (by kernel_rfl))
  t0 := Tryz.underlying0
  a0 := Tryz.isAgg0
  z0 := Tryz.sizeOf0
  v0 := Tryz.zeroValue0
  t3 := Tryz.underlying3
  a3 := Tryz.isAgg3
  z3 := Tryz.sizeOf3
  v3 := Tryz.zeroValue3
  t4 := Tryz.underlying4
  a4 := Tryz.isAgg4
  z4 := Tryz.sizeOf4
  v4 := Tryz.zeroValue4
  t5 := Tryz.underlying5
  a5 := Tryz.isAgg5
  z5 := Tryz.sizeOf5
  v5 := Tryz.zeroValue5
  t9 := Tryz.underlying9
  a9 := Tryz.isAgg9
  z9 := Tryz.sizeOf9
  v9 := Tryz.zeroValue9
  t46 := Tryz.underlying161
  a46 := Tryz.isAgg161
  z46 := Tryz.sizeOf161
  v46 := Tryz.zeroValue161
  t53 := Tryz.underlying158
  a53 := Tryz.isAgg158
  z53 := Tryz.sizeOf158
  v53 := Tryz.zeroValue158
  t212 := Tryz.underlying247
  a212 := Tryz.isAgg247
  z212 := Tryz.sizeOf247
  v212 := Tryz.zeroValue247
  g17 := by kernel_rfl
  i0 := by kernel_rfl
  i3 := by kernel_rfl
  i4 := by kernel_rfl
  i5 := by kernel_rfl
  i9 := by kernel_rfl
  i46 := by kernel_rfl
  i53 := by kernel_rfl
  i212 := by kernel_rfl
  m17 := by kernel_rfl }
open Go.Lib in
/-- internal/strconv.numDigits, at a d that is not 0: THE NUMBER OF d's DECIMAL DIGITS. The world is as it was. (LAID: no walk: one application.) -/
theorem Tryz.internal_strconv_numDigits (u : Nat) (h1 : 1 ≤ u) (h2 : u < 18446744073709551616) (w : World) (htab : Lib.TabIs Tryz.prog w "internal/strconv.uint64pow10" .u64 Lib.pow10Tab) :
    Calls Tryz.prog 130 #[.int .u64 u] w fun e w' => e = .returned (.int .i64 (Lib.nDigits u)) ∧ w' = w := Any.internal_strconv_numDigits Tryz.laysM284 u h1 h2 w htab
def Tryz.lays285_ren : Go.Shelf.Ren := ⟨fun | 285 => 131 | n => n, fun | 37 => 40 | 53 => 158 | 3 => 3 | 4 => 4 | 51 => 226 | 9 => 9 | 5 => 5 | 0 => 0 | n => n, fun | n => n⟩
theorem Tryz.lays285 : Go.Proofs.Lays.n285 Tryz.prog Tryz.lays285_ren := {
  mixed := by kernel_rfl
  f285 := Tryz.func131.trans (congrArg some (by kernel_rfl))
  t0 := Tryz.underlying0
  a0 := Tryz.isAgg0
  z0 := Tryz.sizeOf0
  v0 := Tryz.zeroValue0
  t3 := Tryz.underlying3
  a3 := Tryz.isAgg3
  z3 := Tryz.sizeOf3
  v3 := Tryz.zeroValue3
  t4 := Tryz.underlying4
  a4 := Tryz.isAgg4
  z4 := Tryz.sizeOf4
  v4 := Tryz.zeroValue4
  t5 := Tryz.underlying5
  a5 := Tryz.isAgg5
  z5 := Tryz.sizeOf5
  v5 := Tryz.zeroValue5
  t9 := Tryz.underlying9
  a9 := Tryz.isAgg9
  z9 := Tryz.sizeOf9
  v9 := Tryz.zeroValue9
  t37 := Tryz.underlying40
  a37 := Tryz.isAgg40
  z37 := Tryz.sizeOf40
  v37 := Tryz.zeroValue40
  t51 := Tryz.underlying226
  a51 := Tryz.isAgg226
  z51 := Tryz.sizeOf226
  v51 := Tryz.zeroValue226
  t53 := Tryz.underlying158
  a53 := Tryz.isAgg158
  z53 := Tryz.sizeOf158
  v53 := Tryz.zeroValue158 }
open Go.RowKit Go.Sort Go.Lib in
/-- internal/strconv.formatBase10: "formatBase10 formats the decimal representation of u into a. The caller is responsible for ensuring that a is big enough to hold u. If a is too big, leading zeros will be filled in as needed.": THE ROW HOLDS u's DIGITS ('FmtInv .. 0 ..': every place t holds 'dg u (len - 1 - t)'); all else is as it was but for the count of draws. (LAID: no walk: one application.) -/
theorem Tryz.internal_strconv_formatBase10 (blk off cap : Nat) (u : Nat) (d : Array UInt8) (w : World) (hH : Holds (fun (b : UInt8) => Value.int .u8 (b.toNat : Int)) w blk off d) (hu : u < 10 ^ d.size) (hu64 : u < 18446744073709551616) (hsz : d.size < 4611686018427387904) :
    Calls Tryz.prog 131 #[.slice (some ⟨blk, off, none⟩) d.size cap, .int .u64 u] w fun e w' =>
      e = .returned (.tuple #[]) ∧ ∃ (n v' : Nat) (dk : Array UInt8), w' = (putRow (fun (b : UInt8) => Value.int .u8 (b.toNat : Int)) w blk off dk).drewN n ∧ FmtInv d.size u 0 v' dk := Any.internal_strconv_formatBase10 Tryz.lays285 blk off cap u d w hH hu hu64 hsz
def Tryz.laysM246_ren : Go.Shelf.Ren := ⟨fun | 246 => 104 | 283 => 129 | 284 => 130 | 285 => 131 | 286 => 132 | 129 => 157 | 317 => 160 | 318 => 169 | 319 => 170 | 320 => 171 | 337 => 221 | 338 => 222 | n => n, fun | 2 => 2 | 3 => 3 | 9 => 9 | 4 => 4 | 171 => 200 | 0 => 0 | 53 => 158 | 37 => 40 | 5 => 5 | 173 => 203 | 212 => 247 | 51 => 226 | 20 => 20 | 213 => 248 | 46 => 161 | 232 => 232 | 233 => 326 | n => n, fun | 17 => 10 | 18 => 24 | 19 => 25 | n => n⟩
theorem Tryz.laysM246 : Go.Proofs.LaysM.n246 Tryz.prog Tryz.laysM246_ren := {
  mixed := by kernel_rfl
  f129 := Tryz.func157.trans (congrArg some (by kernel_rfl))
  f246 := Tryz.func104.trans (congrArg some (by kernel_rfl))
  f283 := Tryz.func129.trans (congrArg some (by kernel_rfl))
  f284 := Tryz.func130.trans (congrArg some (by kernel_rfl))
  f285 := Tryz.func131.trans (congrArg some (by kernel_rfl))
  f286 := Tryz.func132.trans (congrArg some (by kernel_rfl))
  f317 := Tryz.func160.trans (congrArg some (by kernel_rfl))
  f318 := Tryz.func169.trans (congrArg some (by kernel_rfl))
  f319 := Tryz.func170.trans (congrArg some (by kernel_rfl))
  f320 := Tryz.func171.trans (congrArg some (by kernel_rfl))
  f337 := Tryz.func221.trans (congrArg some (by kernel_rfl))
  f338 := Tryz.func222.trans (congrArg some (by kernel_rfl))
  t0 := Tryz.underlying0
  a0 := Tryz.isAgg0
  z0 := Tryz.sizeOf0
  v0 := Tryz.zeroValue0
  t2 := Tryz.underlying2
  a2 := Tryz.isAgg2
  z2 := Tryz.sizeOf2
  v2 := Tryz.zeroValue2
  t3 := Tryz.underlying3
  a3 := Tryz.isAgg3
  z3 := Tryz.sizeOf3
  v3 := Tryz.zeroValue3
  t4 := Tryz.underlying4
  a4 := Tryz.isAgg4
  z4 := Tryz.sizeOf4
  v4 := Tryz.zeroValue4
  t5 := Tryz.underlying5
  a5 := Tryz.isAgg5
  z5 := Tryz.sizeOf5
  v5 := Tryz.zeroValue5
  t9 := Tryz.underlying9
  a9 := Tryz.isAgg9
  z9 := Tryz.sizeOf9
  v9 := Tryz.zeroValue9
  t20 := Tryz.underlying20
  a20 := Tryz.isAgg20
  z20 := Tryz.sizeOf20
  v20 := Tryz.zeroValue20
  t37 := Tryz.underlying40
  a37 := Tryz.isAgg40
  z37 := Tryz.sizeOf40
  v37 := Tryz.zeroValue40
  t46 := Tryz.underlying161
  a46 := Tryz.isAgg161
  z46 := Tryz.sizeOf161
  v46 := Tryz.zeroValue161
  t51 := Tryz.underlying226
  a51 := Tryz.isAgg226
  z51 := Tryz.sizeOf226
  v51 := Tryz.zeroValue226
  t53 := Tryz.underlying158
  a53 := Tryz.isAgg158
  z53 := Tryz.sizeOf158
  v53 := Tryz.zeroValue158
  t171 := Tryz.underlying200
  a171 := Tryz.isAgg200
  z171 := Tryz.sizeOf200
  v171 := Tryz.zeroValue200
  t173 := Tryz.underlying203
  a173 := Tryz.isAgg203
  z173 := Tryz.sizeOf203
  v173 := Tryz.zeroValue203
  t212 := Tryz.underlying247
  a212 := Tryz.isAgg247
  z212 := Tryz.sizeOf247
  v212 := Tryz.zeroValue247
  t213 := Tryz.underlying248
  a213 := Tryz.isAgg248
  z213 := Tryz.sizeOf248
  t232 := Tryz.underlying232
  a232 := Tryz.isAgg232
  z232 := Tryz.sizeOf232
  v232 := Tryz.zeroValue232
  t233 := Tryz.underlying326
  a233 := Tryz.isAgg326
  z233 := Tryz.sizeOf326
  v233 := Tryz.zeroValue326
  g17 := by kernel_rfl
  g18 := by kernel_rfl
  g19 := by kernel_rfl
  i0 := by kernel_rfl
  i2 := by kernel_rfl
  i3 := by kernel_rfl
  i4 := by kernel_rfl
  i5 := by kernel_rfl
  i9 := by kernel_rfl
  i20 := by kernel_rfl
  i37 := by kernel_rfl
  i46 := by kernel_rfl
  i51 := by kernel_rfl
  i53 := by kernel_rfl
  i171 := by kernel_rfl
  i173 := by kernel_rfl
  i212 := by kernel_rfl
  i232 := by kernel_rfl
  i233 := by kernel_rfl
  m17 := by kernel_rfl
  m18 := by kernel_rfl
  m19 := by kernel_rfl }
open Go.RowKit Go.Sort Go.Lib in
/-- internal/strconv.FormatInt: "FormatInt returns the string representation of i in the given base": AT BASE 10: i's decimal numeral, for every int64. The world behind the call: the world before it, new blocks behind the heap, draws. (LAID: no walk: one application.) -/
theorem Tryz.internal_strconv_FormatInt_10 (n : Int) (h0 : -9223372036854775808 ≤ n) (h1 : n ≤ 9223372036854775807) (w : World) (htab : Lib.TabIs Tryz.prog w "internal/strconv.uint64pow10" .u64 Lib.pow10Tab) :
    Calls Tryz.prog 104 #[.int .i64 n, .int .i64 10] w fun e w' => e = .returned (.string ⟨(Lib.itoa n).toArray⟩) ∧ ∃ k os, w' = grow (w.drewN k) os := Any.internal_strconv_FormatInt_10 Tryz.laysM246 n h0 h1 w htab
def Tryz.lays246_ren : Go.Shelf.Ren := ⟨fun | 246 => 104 | 283 => 129 | 284 => 130 | 285 => 131 | 286 => 132 | 129 => 157 | 317 => 160 | 318 => 169 | 319 => 170 | 320 => 171 | 337 => 221 | 338 => 222 | n => n, fun | 2 => 2 | 3 => 3 | 9 => 9 | 4 => 4 | 171 => 200 | 0 => 0 | 53 => 158 | 37 => 40 | 5 => 5 | 173 => 203 | 212 => 247 | 51 => 226 | 20 => 20 | 213 => 248 | 46 => 161 | 232 => 232 | 233 => 326 | n => n, fun | 17 => 10 | 18 => 24 | 19 => 25 | n => n⟩
theorem Tryz.lays246 : Go.Proofs.Lays.n246 Tryz.prog Tryz.lays246_ren := {
  mixed := by kernel_rfl
  f129 := Tryz.func157.trans (congrArg some (by kernel_rfl))
  f246 := Tryz.func104.trans (congrArg some (by kernel_rfl))
  f283 := Tryz.func129.trans (congrArg some (by kernel_rfl))
  f284 := Tryz.func130.trans (congrArg some (by kernel_rfl))
  f285 := Tryz.func131.trans (congrArg some (by kernel_rfl))
  f286 := Tryz.func132.trans (congrArg some (by kernel_rfl))
  f317 := Tryz.func160.trans (congrArg some (by kernel_rfl))
  f318 := Tryz.func169.trans (congrArg some (by kernel_rfl))
  f319 := Tryz.func170.trans (congrArg some (by kernel_rfl))
  f320 := Tryz.func171.trans (congrArg some (by kernel_rfl))
  f337 := Tryz.func221.trans (congrArg some (by kernel_rfl))
  f338 := Tryz.func222.trans (congrArg some (by kernel_rfl))
  t0 := Tryz.underlying0
  a0 := Tryz.isAgg0
  z0 := Tryz.sizeOf0
  v0 := Tryz.zeroValue0
  t2 := Tryz.underlying2
  a2 := Tryz.isAgg2
  z2 := Tryz.sizeOf2
  v2 := Tryz.zeroValue2
  t3 := Tryz.underlying3
  a3 := Tryz.isAgg3
  z3 := Tryz.sizeOf3
  v3 := Tryz.zeroValue3
  t4 := Tryz.underlying4
  a4 := Tryz.isAgg4
  z4 := Tryz.sizeOf4
  v4 := Tryz.zeroValue4
  t5 := Tryz.underlying5
  a5 := Tryz.isAgg5
  z5 := Tryz.sizeOf5
  v5 := Tryz.zeroValue5
  t9 := Tryz.underlying9
  a9 := Tryz.isAgg9
  z9 := Tryz.sizeOf9
  v9 := Tryz.zeroValue9
  t20 := Tryz.underlying20
  a20 := Tryz.isAgg20
  z20 := Tryz.sizeOf20
  v20 := Tryz.zeroValue20
  t37 := Tryz.underlying40
  a37 := Tryz.isAgg40
  z37 := Tryz.sizeOf40
  v37 := Tryz.zeroValue40
  t46 := Tryz.underlying161
  a46 := Tryz.isAgg161
  z46 := Tryz.sizeOf161
  v46 := Tryz.zeroValue161
  t51 := Tryz.underlying226
  a51 := Tryz.isAgg226
  z51 := Tryz.sizeOf226
  v51 := Tryz.zeroValue226
  t53 := Tryz.underlying158
  a53 := Tryz.isAgg158
  z53 := Tryz.sizeOf158
  v53 := Tryz.zeroValue158
  t171 := Tryz.underlying200
  a171 := Tryz.isAgg200
  z171 := Tryz.sizeOf200
  v171 := Tryz.zeroValue200
  t173 := Tryz.underlying203
  a173 := Tryz.isAgg203
  z173 := Tryz.sizeOf203
  v173 := Tryz.zeroValue203
  t212 := Tryz.underlying247
  a212 := Tryz.isAgg247
  z212 := Tryz.sizeOf247
  v212 := Tryz.zeroValue247
  t213 := Tryz.underlying248
  a213 := Tryz.isAgg248
  z213 := Tryz.sizeOf248
  t232 := Tryz.underlying232
  a232 := Tryz.isAgg232
  z232 := Tryz.sizeOf232
  v232 := Tryz.zeroValue232
  t233 := Tryz.underlying326
  a233 := Tryz.isAgg326
  z233 := Tryz.sizeOf326
  v233 := Tryz.zeroValue326
  g17 := by kernel_rfl
  g18 := by kernel_rfl
  g19 := by kernel_rfl }
open Go.RowKit Go.Sort Go.Lib in
/-- THE ROAD WITHOUT THE TABLE: 0 <= i < 100: two constants are read, nothing is laid: no premise on the world, and the world is as it was. (LAID: no walk: one application.) -/
theorem Tryz.internal_strconv_FormatInt_10_small (i : Nat) (hi : i < 100) (w : World) :
    Calls Tryz.prog 104 #[.int .i64 i, .int .i64 10] w fun e w' => e = .returned (.string ⟨(Lib.decDigits i).toArray⟩) ∧ w' = w := Any.internal_strconv_FormatInt_10_small Tryz.lays246 i hi w
def Tryz.laysM243_ren : Go.Shelf.Ren := ⟨fun | 243 => 87 | 246 => 104 | 283 => 129 | 284 => 130 | 285 => 131 | 286 => 132 | 129 => 157 | 317 => 160 | 318 => 169 | 319 => 170 | 320 => 171 | 337 => 221 | 338 => 222 | n => n, fun | 3 => 3 | 9 => 9 | 2 => 2 | 4 => 4 | 171 => 200 | 0 => 0 | 53 => 158 | 37 => 40 | 5 => 5 | 173 => 203 | 212 => 247 | 51 => 226 | 20 => 20 | 213 => 248 | 46 => 161 | 232 => 232 | 233 => 326 | n => n, fun | 17 => 10 | 18 => 24 | 19 => 25 | n => n⟩
theorem Tryz.laysM243 : Go.Proofs.LaysM.n243 Tryz.prog Tryz.laysM243_ren := {
  mixed := by kernel_rfl
  f129 := Tryz.func157.trans (congrArg some (by kernel_rfl))
  f243 := Tryz.func87.trans (congrArg some (by kernel_rfl))
  f246 := Tryz.func104.trans (congrArg some (by kernel_rfl))
  f283 := Tryz.func129.trans (congrArg some (by kernel_rfl))
  f284 := Tryz.func130.trans (congrArg some (by kernel_rfl))
  f285 := Tryz.func131.trans (congrArg some (by kernel_rfl))
  f286 := Tryz.func132.trans (congrArg some (by kernel_rfl))
  f317 := Tryz.func160.trans (congrArg some (by kernel_rfl))
  f318 := Tryz.func169.trans (congrArg some (by kernel_rfl))
  f319 := Tryz.func170.trans (congrArg some (by kernel_rfl))
  f320 := Tryz.func171.trans (congrArg some (by kernel_rfl))
  f337 := Tryz.func221.trans (congrArg some (by kernel_rfl))
  f338 := Tryz.func222.trans (congrArg some (by kernel_rfl))
  t0 := Tryz.underlying0
  a0 := Tryz.isAgg0
  z0 := Tryz.sizeOf0
  v0 := Tryz.zeroValue0
  t2 := Tryz.underlying2
  a2 := Tryz.isAgg2
  z2 := Tryz.sizeOf2
  v2 := Tryz.zeroValue2
  t3 := Tryz.underlying3
  a3 := Tryz.isAgg3
  z3 := Tryz.sizeOf3
  v3 := Tryz.zeroValue3
  t4 := Tryz.underlying4
  a4 := Tryz.isAgg4
  z4 := Tryz.sizeOf4
  v4 := Tryz.zeroValue4
  t5 := Tryz.underlying5
  a5 := Tryz.isAgg5
  z5 := Tryz.sizeOf5
  v5 := Tryz.zeroValue5
  t9 := Tryz.underlying9
  a9 := Tryz.isAgg9
  z9 := Tryz.sizeOf9
  v9 := Tryz.zeroValue9
  t20 := Tryz.underlying20
  a20 := Tryz.isAgg20
  z20 := Tryz.sizeOf20
  v20 := Tryz.zeroValue20
  t37 := Tryz.underlying40
  a37 := Tryz.isAgg40
  z37 := Tryz.sizeOf40
  v37 := Tryz.zeroValue40
  t46 := Tryz.underlying161
  a46 := Tryz.isAgg161
  z46 := Tryz.sizeOf161
  v46 := Tryz.zeroValue161
  t51 := Tryz.underlying226
  a51 := Tryz.isAgg226
  z51 := Tryz.sizeOf226
  v51 := Tryz.zeroValue226
  t53 := Tryz.underlying158
  a53 := Tryz.isAgg158
  z53 := Tryz.sizeOf158
  v53 := Tryz.zeroValue158
  t171 := Tryz.underlying200
  a171 := Tryz.isAgg200
  z171 := Tryz.sizeOf200
  v171 := Tryz.zeroValue200
  t173 := Tryz.underlying203
  a173 := Tryz.isAgg203
  z173 := Tryz.sizeOf203
  v173 := Tryz.zeroValue203
  t212 := Tryz.underlying247
  a212 := Tryz.isAgg247
  z212 := Tryz.sizeOf247
  v212 := Tryz.zeroValue247
  t213 := Tryz.underlying248
  a213 := Tryz.isAgg248
  z213 := Tryz.sizeOf248
  t232 := Tryz.underlying232
  a232 := Tryz.isAgg232
  z232 := Tryz.sizeOf232
  v232 := Tryz.zeroValue232
  t233 := Tryz.underlying326
  a233 := Tryz.isAgg326
  z233 := Tryz.sizeOf326
  v233 := Tryz.zeroValue326
  g17 := by kernel_rfl
  g18 := by kernel_rfl
  g19 := by kernel_rfl
  i0 := by kernel_rfl
  i2 := by kernel_rfl
  i3 := by kernel_rfl
  i4 := by kernel_rfl
  i5 := by kernel_rfl
  i9 := by kernel_rfl
  i20 := by kernel_rfl
  i37 := by kernel_rfl
  i46 := by kernel_rfl
  i51 := by kernel_rfl
  i53 := by kernel_rfl
  i171 := by kernel_rfl
  i173 := by kernel_rfl
  i212 := by kernel_rfl
  i232 := by kernel_rfl
  i233 := by kernel_rfl
  m17 := by kernel_rfl
  m18 := by kernel_rfl
  m19 := by kernel_rfl }
open Go.RowKit Go.Sort Go.Lib in
/-- internal/strconv.Itoa: "Itoa is equivalent to FormatInt(int64(i), 10).": i's decimal numeral, for every int. (LAID: no walk: one application.) -/
theorem Tryz.internal_strconv_Itoa (n : Int) (h0 : -9223372036854775808 ≤ n) (h1 : n ≤ 9223372036854775807) (w : World) (htab : Lib.TabIs Tryz.prog w "internal/strconv.uint64pow10" .u64 Lib.pow10Tab) :
    Calls Tryz.prog 87 #[.int .i64 n] w fun e w' => e = .returned (.string ⟨(Lib.itoa n).toArray⟩) ∧ ∃ k os, w' = grow (w.drewN k) os := Any.internal_strconv_Itoa Tryz.laysM243 n h0 h1 w htab
def Tryz.lays243_ren : Go.Shelf.Ren := ⟨fun | 243 => 87 | 246 => 104 | 283 => 129 | 284 => 130 | 285 => 131 | 286 => 132 | 129 => 157 | 317 => 160 | 318 => 169 | 319 => 170 | 320 => 171 | 337 => 221 | 338 => 222 | n => n, fun | 3 => 3 | 9 => 9 | 2 => 2 | 4 => 4 | 171 => 200 | 0 => 0 | 53 => 158 | 37 => 40 | 5 => 5 | 173 => 203 | 212 => 247 | 51 => 226 | 20 => 20 | 213 => 248 | 46 => 161 | 232 => 232 | 233 => 326 | n => n, fun | 17 => 10 | 18 => 24 | 19 => 25 | n => n⟩
theorem Tryz.lays243 : Go.Proofs.Lays.n243 Tryz.prog Tryz.lays243_ren := {
  mixed := by kernel_rfl
  f129 := Tryz.func157.trans (congrArg some (by kernel_rfl))
  f243 := Tryz.func87.trans (congrArg some (by kernel_rfl))
  f246 := Tryz.func104.trans (congrArg some (by kernel_rfl))
  f283 := Tryz.func129.trans (congrArg some (by kernel_rfl))
  f284 := Tryz.func130.trans (congrArg some (by kernel_rfl))
  f285 := Tryz.func131.trans (congrArg some (by kernel_rfl))
  f286 := Tryz.func132.trans (congrArg some (by kernel_rfl))
  f317 := Tryz.func160.trans (congrArg some (by kernel_rfl))
  f318 := Tryz.func169.trans (congrArg some (by kernel_rfl))
  f319 := Tryz.func170.trans (congrArg some (by kernel_rfl))
  f320 := Tryz.func171.trans (congrArg some (by kernel_rfl))
  f337 := Tryz.func221.trans (congrArg some (by kernel_rfl))
  f338 := Tryz.func222.trans (congrArg some (by kernel_rfl))
  t0 := Tryz.underlying0
  a0 := Tryz.isAgg0
  z0 := Tryz.sizeOf0
  v0 := Tryz.zeroValue0
  t2 := Tryz.underlying2
  a2 := Tryz.isAgg2
  z2 := Tryz.sizeOf2
  v2 := Tryz.zeroValue2
  t3 := Tryz.underlying3
  a3 := Tryz.isAgg3
  z3 := Tryz.sizeOf3
  v3 := Tryz.zeroValue3
  t4 := Tryz.underlying4
  a4 := Tryz.isAgg4
  z4 := Tryz.sizeOf4
  v4 := Tryz.zeroValue4
  t5 := Tryz.underlying5
  a5 := Tryz.isAgg5
  z5 := Tryz.sizeOf5
  v5 := Tryz.zeroValue5
  t9 := Tryz.underlying9
  a9 := Tryz.isAgg9
  z9 := Tryz.sizeOf9
  v9 := Tryz.zeroValue9
  t20 := Tryz.underlying20
  a20 := Tryz.isAgg20
  z20 := Tryz.sizeOf20
  v20 := Tryz.zeroValue20
  t37 := Tryz.underlying40
  a37 := Tryz.isAgg40
  z37 := Tryz.sizeOf40
  v37 := Tryz.zeroValue40
  t46 := Tryz.underlying161
  a46 := Tryz.isAgg161
  z46 := Tryz.sizeOf161
  v46 := Tryz.zeroValue161
  t51 := Tryz.underlying226
  a51 := Tryz.isAgg226
  z51 := Tryz.sizeOf226
  v51 := Tryz.zeroValue226
  t53 := Tryz.underlying158
  a53 := Tryz.isAgg158
  z53 := Tryz.sizeOf158
  v53 := Tryz.zeroValue158
  t171 := Tryz.underlying200
  a171 := Tryz.isAgg200
  z171 := Tryz.sizeOf200
  v171 := Tryz.zeroValue200
  t173 := Tryz.underlying203
  a173 := Tryz.isAgg203
  z173 := Tryz.sizeOf203
  v173 := Tryz.zeroValue203
  t212 := Tryz.underlying247
  a212 := Tryz.isAgg247
  z212 := Tryz.sizeOf247
  v212 := Tryz.zeroValue247
  t213 := Tryz.underlying248
  a213 := Tryz.isAgg248
  z213 := Tryz.sizeOf248
  t232 := Tryz.underlying232
  a232 := Tryz.isAgg232
  z232 := Tryz.sizeOf232
  v232 := Tryz.zeroValue232
  t233 := Tryz.underlying326
  a233 := Tryz.isAgg326
  z233 := Tryz.sizeOf326
  v233 := Tryz.zeroValue326
  g17 := by kernel_rfl
  g18 := by kernel_rfl
  g19 := by kernel_rfl }
open Go.RowKit Go.Sort Go.Lib in
/-- THE ROAD WITHOUT THE TABLE: 0 <= i < 100. (LAID: no walk: one application.) -/
theorem Tryz.internal_strconv_Itoa_small (i : Nat) (hi : i < 100) (w : World) :
    Calls Tryz.prog 87 #[.int .i64 i] w fun e w' => e = .returned (.string ⟨(Lib.decDigits i).toArray⟩) ∧ w' = w := Any.internal_strconv_Itoa_small Tryz.lays243 i hi w
def Tryz.laysM171_ren : Go.Shelf.Ren := ⟨fun | 171 => 66 | 243 => 87 | 246 => 104 | 283 => 129 | 284 => 130 | 285 => 131 | 286 => 132 | 129 => 157 | 317 => 160 | 318 => 169 | 319 => 170 | 320 => 171 | 337 => 221 | 338 => 222 | n => n, fun | 3 => 3 | 9 => 9 | 2 => 2 | 4 => 4 | 171 => 200 | 0 => 0 | 53 => 158 | 37 => 40 | 5 => 5 | 173 => 203 | 212 => 247 | 51 => 226 | 20 => 20 | 213 => 248 | 46 => 161 | 232 => 232 | 233 => 326 | n => n, fun | 17 => 10 | 18 => 24 | 19 => 25 | n => n⟩
theorem Tryz.laysM171 : Go.Proofs.LaysM.n171 Tryz.prog Tryz.laysM171_ren := {
  mixed := by kernel_rfl
  f129 := Tryz.func157.trans (congrArg some (by kernel_rfl))
  f171 := Tryz.func66.trans (congrArg some (by kernel_rfl))
  f243 := Tryz.func87.trans (congrArg some (by kernel_rfl))
  f246 := Tryz.func104.trans (congrArg some (by kernel_rfl))
  f283 := Tryz.func129.trans (congrArg some (by kernel_rfl))
  f284 := Tryz.func130.trans (congrArg some (by kernel_rfl))
  f285 := Tryz.func131.trans (congrArg some (by kernel_rfl))
  f286 := Tryz.func132.trans (congrArg some (by kernel_rfl))
  f317 := Tryz.func160.trans (congrArg some (by kernel_rfl))
  f318 := Tryz.func169.trans (congrArg some (by kernel_rfl))
  f319 := Tryz.func170.trans (congrArg some (by kernel_rfl))
  f320 := Tryz.func171.trans (congrArg some (by kernel_rfl))
  f337 := Tryz.func221.trans (congrArg some (by kernel_rfl))
  f338 := Tryz.func222.trans (congrArg some (by kernel_rfl))
  t0 := Tryz.underlying0
  a0 := Tryz.isAgg0
  z0 := Tryz.sizeOf0
  v0 := Tryz.zeroValue0
  t2 := Tryz.underlying2
  a2 := Tryz.isAgg2
  z2 := Tryz.sizeOf2
  v2 := Tryz.zeroValue2
  t3 := Tryz.underlying3
  a3 := Tryz.isAgg3
  z3 := Tryz.sizeOf3
  v3 := Tryz.zeroValue3
  t4 := Tryz.underlying4
  a4 := Tryz.isAgg4
  z4 := Tryz.sizeOf4
  v4 := Tryz.zeroValue4
  t5 := Tryz.underlying5
  a5 := Tryz.isAgg5
  z5 := Tryz.sizeOf5
  v5 := Tryz.zeroValue5
  t9 := Tryz.underlying9
  a9 := Tryz.isAgg9
  z9 := Tryz.sizeOf9
  v9 := Tryz.zeroValue9
  t20 := Tryz.underlying20
  a20 := Tryz.isAgg20
  z20 := Tryz.sizeOf20
  v20 := Tryz.zeroValue20
  t37 := Tryz.underlying40
  a37 := Tryz.isAgg40
  z37 := Tryz.sizeOf40
  v37 := Tryz.zeroValue40
  t46 := Tryz.underlying161
  a46 := Tryz.isAgg161
  z46 := Tryz.sizeOf161
  v46 := Tryz.zeroValue161
  t51 := Tryz.underlying226
  a51 := Tryz.isAgg226
  z51 := Tryz.sizeOf226
  v51 := Tryz.zeroValue226
  t53 := Tryz.underlying158
  a53 := Tryz.isAgg158
  z53 := Tryz.sizeOf158
  v53 := Tryz.zeroValue158
  t171 := Tryz.underlying200
  a171 := Tryz.isAgg200
  z171 := Tryz.sizeOf200
  v171 := Tryz.zeroValue200
  t173 := Tryz.underlying203
  a173 := Tryz.isAgg203
  z173 := Tryz.sizeOf203
  v173 := Tryz.zeroValue203
  t212 := Tryz.underlying247
  a212 := Tryz.isAgg247
  z212 := Tryz.sizeOf247
  v212 := Tryz.zeroValue247
  t213 := Tryz.underlying248
  a213 := Tryz.isAgg248
  z213 := Tryz.sizeOf248
  t232 := Tryz.underlying232
  a232 := Tryz.isAgg232
  z232 := Tryz.sizeOf232
  v232 := Tryz.zeroValue232
  t233 := Tryz.underlying326
  a233 := Tryz.isAgg326
  z233 := Tryz.sizeOf326
  v233 := Tryz.zeroValue326
  g17 := by kernel_rfl
  g18 := by kernel_rfl
  g19 := by kernel_rfl
  i0 := by kernel_rfl
  i2 := by kernel_rfl
  i3 := by kernel_rfl
  i4 := by kernel_rfl
  i5 := by kernel_rfl
  i9 := by kernel_rfl
  i20 := by kernel_rfl
  i37 := by kernel_rfl
  i46 := by kernel_rfl
  i51 := by kernel_rfl
  i53 := by kernel_rfl
  i171 := by kernel_rfl
  i173 := by kernel_rfl
  i212 := by kernel_rfl
  i232 := by kernel_rfl
  i233 := by kernel_rfl
  m17 := by kernel_rfl
  m18 := by kernel_rfl
  m19 := by kernel_rfl }
open Go.RowKit Go.Sort Go.Lib in
/-- strconv.Itoa: "Itoa is equivalent to FormatInt(int64(i), 10).": i's DECIMAL NUMERAL ('Lib.itoa': a '-' where i is negative, then the digits), FOR EVERY int. The world behind the call: the world before it, new blocks behind the heap (the library's 'var a [24]byte'), draws. (LAID: no walk: one application.) -/
theorem Tryz.strconv_Itoa (n : Int) (h0 : -9223372036854775808 ≤ n) (h1 : n ≤ 9223372036854775807) (w : World) (htab : Lib.TabIs Tryz.prog w "internal/strconv.uint64pow10" .u64 Lib.pow10Tab) :
    Calls Tryz.prog 66 #[.int .i64 n] w fun e w' => e = .returned (.string ⟨(Lib.itoa n).toArray⟩) ∧ ∃ k os, w' = grow (w.drewN k) os := Any.strconv_Itoa Tryz.laysM171 n h0 h1 w htab
def Tryz.lays171_ren : Go.Shelf.Ren := ⟨fun | 171 => 66 | 243 => 87 | 246 => 104 | 283 => 129 | 284 => 130 | 285 => 131 | 286 => 132 | 129 => 157 | 317 => 160 | 318 => 169 | 319 => 170 | 320 => 171 | 337 => 221 | 338 => 222 | n => n, fun | 3 => 3 | 9 => 9 | 2 => 2 | 4 => 4 | 171 => 200 | 0 => 0 | 53 => 158 | 37 => 40 | 5 => 5 | 173 => 203 | 212 => 247 | 51 => 226 | 20 => 20 | 213 => 248 | 46 => 161 | 232 => 232 | 233 => 326 | n => n, fun | 17 => 10 | 18 => 24 | 19 => 25 | n => n⟩
theorem Tryz.lays171 : Go.Proofs.Lays.n171 Tryz.prog Tryz.lays171_ren := {
  mixed := by kernel_rfl
  f129 := Tryz.func157.trans (congrArg some (by kernel_rfl))
  f171 := Tryz.func66.trans (congrArg some (by kernel_rfl))
  f243 := Tryz.func87.trans (congrArg some (by kernel_rfl))
  f246 := Tryz.func104.trans (congrArg some (by kernel_rfl))
  f283 := Tryz.func129.trans (congrArg some (by kernel_rfl))
  f284 := Tryz.func130.trans (congrArg some (by kernel_rfl))
  f285 := Tryz.func131.trans (congrArg some (by kernel_rfl))
  f286 := Tryz.func132.trans (congrArg some (by kernel_rfl))
  f317 := Tryz.func160.trans (congrArg some (by kernel_rfl))
  f318 := Tryz.func169.trans (congrArg some (by kernel_rfl))
  f319 := Tryz.func170.trans (congrArg some (by kernel_rfl))
  f320 := Tryz.func171.trans (congrArg some (by kernel_rfl))
  f337 := Tryz.func221.trans (congrArg some (by kernel_rfl))
  f338 := Tryz.func222.trans (congrArg some (by kernel_rfl))
  t0 := Tryz.underlying0
  a0 := Tryz.isAgg0
  z0 := Tryz.sizeOf0
  v0 := Tryz.zeroValue0
  t2 := Tryz.underlying2
  a2 := Tryz.isAgg2
  z2 := Tryz.sizeOf2
  v2 := Tryz.zeroValue2
  t3 := Tryz.underlying3
  a3 := Tryz.isAgg3
  z3 := Tryz.sizeOf3
  v3 := Tryz.zeroValue3
  t4 := Tryz.underlying4
  a4 := Tryz.isAgg4
  z4 := Tryz.sizeOf4
  v4 := Tryz.zeroValue4
  t5 := Tryz.underlying5
  a5 := Tryz.isAgg5
  z5 := Tryz.sizeOf5
  v5 := Tryz.zeroValue5
  t9 := Tryz.underlying9
  a9 := Tryz.isAgg9
  z9 := Tryz.sizeOf9
  v9 := Tryz.zeroValue9
  t20 := Tryz.underlying20
  a20 := Tryz.isAgg20
  z20 := Tryz.sizeOf20
  v20 := Tryz.zeroValue20
  t37 := Tryz.underlying40
  a37 := Tryz.isAgg40
  z37 := Tryz.sizeOf40
  v37 := Tryz.zeroValue40
  t46 := Tryz.underlying161
  a46 := Tryz.isAgg161
  z46 := Tryz.sizeOf161
  v46 := Tryz.zeroValue161
  t51 := Tryz.underlying226
  a51 := Tryz.isAgg226
  z51 := Tryz.sizeOf226
  v51 := Tryz.zeroValue226
  t53 := Tryz.underlying158
  a53 := Tryz.isAgg158
  z53 := Tryz.sizeOf158
  v53 := Tryz.zeroValue158
  t171 := Tryz.underlying200
  a171 := Tryz.isAgg200
  z171 := Tryz.sizeOf200
  v171 := Tryz.zeroValue200
  t173 := Tryz.underlying203
  a173 := Tryz.isAgg203
  z173 := Tryz.sizeOf203
  v173 := Tryz.zeroValue203
  t212 := Tryz.underlying247
  a212 := Tryz.isAgg247
  z212 := Tryz.sizeOf247
  v212 := Tryz.zeroValue247
  t213 := Tryz.underlying248
  a213 := Tryz.isAgg248
  z213 := Tryz.sizeOf248
  t232 := Tryz.underlying232
  a232 := Tryz.isAgg232
  z232 := Tryz.sizeOf232
  v232 := Tryz.zeroValue232
  t233 := Tryz.underlying326
  a233 := Tryz.isAgg326
  z233 := Tryz.sizeOf326
  v233 := Tryz.zeroValue326
  g17 := by kernel_rfl
  g18 := by kernel_rfl
  g19 := by kernel_rfl }
open Go.RowKit Go.Sort Go.Lib in
/-- THE ROAD WITHOUT THE TABLE: 0 <= i < 100: NO PREMISE ON THE WORLD, AND THE WORLD IS AS IT WAS: a row that keeps its argument in that range need list no table ('laid = []'). (LAID: no walk: one application.) -/
theorem Tryz.strconv_Itoa_small (i : Nat) (hi : i < 100) (w : World) :
    Calls Tryz.prog 66 #[.int .i64 i] w fun e w' => e = .returned (.string ⟨(Lib.decDigits i).toArray⟩) ∧ w' = w := Any.strconv_Itoa_small Tryz.lays171 i hi w
open Go.RowKit in
/-- internal/strconv.Atoi, at a string of 1 to 18 bytes THAT IS NO DECIMAL NUMERAL: 0, AND ErrSyntax (the package's own error number 2). The world behind the call: as it was, or with the one new row that '[]byte(s)' lays. (LAID: no walk: one application.) -/
theorem Tryz.internal_strconv_Atoi_err (s : ByteArray) (hl0 : 1 ≤ s.size) (hl : s.size ≤ 18) (h : Lib.atoi s.data.toList = none) (w : World) :
    Calls Tryz.prog 69 #[.string s] w fun e w' => e = .returned (.tuple #[.int .i64 0, (.iface 139 (.int .i64 2))]) ∧ (w' = w ∨ ∃ t, w' = Lib.bytesWorld w 5 t) := Any.internal_strconv_Atoi_err Tryz.lays244 s hl0 hl h w
def Tryz.lays247_ren : Go.Shelf.Ren := ⟨fun | 247 => 88 | 287 => 105 | 321 => 133 | 322 => 134 | n => n, fun | 9 => 9 | 3 => 3 | 2 => 2 | 75 => 71 | 4 => 4 | 167 => 139 | 5 => 5 | 53 => 158 | 175 => 159 | 46 => 161 | 37 => 40 | 0 => 0 | 21 => 21 | 80 => 67 | n => n, fun | n => n⟩
theorem Tryz.lays247 : Go.Proofs.Lays.n247 Tryz.prog Tryz.lays247_ren := {
  mixed := by kernel_rfl
  f247 := Tryz.func88.trans (congrArg some (by kernel_rfl))
  f287 := Tryz.func105.trans (congrArg some (by kernel_rfl))
  f321 := Tryz.func133.trans (congrArg some (by kernel_rfl))
  f322 := Tryz.func134.trans (congrArg some (by kernel_rfl))
  t0 := Tryz.underlying0
  a0 := Tryz.isAgg0
  z0 := Tryz.sizeOf0
  v0 := Tryz.zeroValue0
  t2 := Tryz.underlying2
  a2 := Tryz.isAgg2
  z2 := Tryz.sizeOf2
  v2 := Tryz.zeroValue2
  t3 := Tryz.underlying3
  a3 := Tryz.isAgg3
  z3 := Tryz.sizeOf3
  v3 := Tryz.zeroValue3
  t4 := Tryz.underlying4
  a4 := Tryz.isAgg4
  z4 := Tryz.sizeOf4
  v4 := Tryz.zeroValue4
  t5 := Tryz.underlying5
  a5 := Tryz.isAgg5
  z5 := Tryz.sizeOf5
  v5 := Tryz.zeroValue5
  t9 := Tryz.underlying9
  a9 := Tryz.isAgg9
  z9 := Tryz.sizeOf9
  v9 := Tryz.zeroValue9
  t21 := Tryz.underlying21
  a21 := Tryz.isAgg21
  z21 := Tryz.sizeOf21
  v21 := Tryz.zeroValue21
  t37 := Tryz.underlying40
  a37 := Tryz.isAgg40
  z37 := Tryz.sizeOf40
  v37 := Tryz.zeroValue40
  t46 := Tryz.underlying161
  a46 := Tryz.isAgg161
  z46 := Tryz.sizeOf161
  v46 := Tryz.zeroValue161
  t53 := Tryz.underlying158
  a53 := Tryz.isAgg158
  z53 := Tryz.sizeOf158
  v53 := Tryz.zeroValue158
  t75 := Tryz.underlying71
  a75 := Tryz.isAgg71
  z75 := Tryz.sizeOf71
  v75 := Tryz.zeroValue71
  t167 := Tryz.underlying139
  a167 := Tryz.isAgg139
  z167 := Tryz.sizeOf139
  v167 := Tryz.zeroValue139
  t175 := Tryz.underlying159
  a175 := Tryz.isAgg159
  z175 := Tryz.sizeOf159
  v175 := Tryz.zeroValue159 }
open Go.RowKit in
/-- internal/strconv.ParseInt at "": 'if s == "" { return 0, ErrSyntax }'. The world is as it was. (LAID: no walk: one application.) -/
theorem Tryz.internal_strconv_ParseInt_empty (base bits : Int) (w : World) :
    Calls Tryz.prog 88 #[.string ⟨#[]⟩, .int .i64 base, .int .i64 bits] w fun e w' => e = .returned (.tuple #[.int .i64 0, (.iface 139 (.int .i64 2))]) ∧ w' = w := Any.internal_strconv_ParseInt_empty Tryz.lays247 base bits w
open Go.RowKit in
/-- internal/strconv.Atoi at "". (LAID: no walk: one application.) -/
theorem Tryz.internal_strconv_Atoi_empty (w : World) :
    Calls Tryz.prog 69 #[.string ⟨#[]⟩] w fun e w' => e = .returned (.tuple #[.int .i64 0, (.iface 139 (.int .i64 2))]) ∧ w' = w := Any.internal_strconv_Atoi_empty Tryz.lays244 w
open Go.RowKit in
/-- internal/strconv.Atoi, AT EVERY STRING OF AT MOST 18 BYTES THAT IS NO DECIMAL NUMERAL: 0, and ErrSyntax. (LAID: no walk: one application.) -/
theorem Tryz.internal_strconv_Atoi_fail (s : ByteArray) (hl : s.size ≤ 18) (h : Lib.atoi s.data.toList = none) (w : World) :
    Calls Tryz.prog 69 #[.string s] w fun e w' => e = .returned (.tuple #[.int .i64 0, (.iface 139 (.int .i64 2))]) ∧ (w' = w ∨ ∃ t, w' = Lib.bytesWorld w 5 t) := Any.internal_strconv_Atoi_fail Tryz.lays244 s hl h w
def Tryz.laysM316_ren : Go.Shelf.Ren := ⟨fun | 316 => 106 | n => n, fun | 9 => 9 | 3 => 3 | 4 => 4 | 37 => 40 | 0 => 0 | 127 => 206 | 5 => 5 | n => n, fun | n => n⟩
theorem Tryz.laysM316 : Go.Proofs.LaysM.n316 Tryz.prog Tryz.laysM316_ren := {
  mixed := by kernel_rfl
  f316 := Tryz.func106.trans (congrArg some (by kernel_rfl))
  t0 := Tryz.underlying0
  a0 := Tryz.isAgg0
  z0 := Tryz.sizeOf0
  v0 := Tryz.zeroValue0
  t3 := Tryz.underlying3
  a3 := Tryz.isAgg3
  z3 := Tryz.sizeOf3
  v3 := Tryz.zeroValue3
  t4 := Tryz.underlying4
  a4 := Tryz.isAgg4
  z4 := Tryz.sizeOf4
  v4 := Tryz.zeroValue4
  t9 := Tryz.underlying9
  a9 := Tryz.isAgg9
  z9 := Tryz.sizeOf9
  v9 := Tryz.zeroValue9
  t37 := Tryz.underlying40
  a37 := Tryz.isAgg40
  z37 := Tryz.sizeOf40
  v37 := Tryz.zeroValue40
  t127 := Tryz.underlying206
  a127 := Tryz.isAgg206
  z127 := Tryz.sizeOf206
  v127 := Tryz.zeroValue206
  t5 := Tryz.underlying5
  a5 := Tryz.isAgg5
  z5 := Tryz.sizeOf5
  v5 := Tryz.zeroValue5
  i0 := by kernel_rfl
  i3 := by kernel_rfl
  i4 := by kernel_rfl
  i5 := by kernel_rfl
  i9 := by kernel_rfl
  i37 := by kernel_rfl
  i127 := by kernel_rfl }
open Go.RowKit in
/-- internal/stringslite.Clone (what strings.Clone calls): "Clone returns a fresh copy of s.": THE SAME BYTES. Of what was there nothing has turned (a new row is laid, and frozen, where s is not empty). (LAID: no walk: one application.) -/
theorem Tryz.stringslite_Clone (s : ByteArray) (w : World) (hlim : s.size ≤ 281474976710656) :
    Calls Tryz.prog 106 #[.string s] w fun e w' => e = .returned (.string s) ∧ Below w.heap.size w w' := Any.stringslite_Clone Tryz.laysM316 s w hlim
def Tryz.laysM279_ren : Go.Shelf.Ren := ⟨fun | 279 => 89 | 316 => 106 | n => n, fun | 9 => 9 | 168 => 142 | 75 => 71 | 210 => 163 | 3 => 3 | 4 => 4 | 37 => 40 | 0 => 0 | 127 => 206 | 80 => 67 | 5 => 5 | n => n, fun | 15 => 2 | n => n⟩
theorem Tryz.laysM279 : Go.Proofs.LaysM.n279 Tryz.prog Tryz.laysM279_ren := {
  mixed := by kernel_rfl
  f279 := Tryz.func89.trans (congrArg some (by kernel_rfl))
  f316 := Tryz.func106.trans (congrArg some (by kernel_rfl))
  t0 := Tryz.underlying0
  a0 := Tryz.isAgg0
  z0 := Tryz.sizeOf0
  v0 := Tryz.zeroValue0
  t3 := Tryz.underlying3
  a3 := Tryz.isAgg3
  z3 := Tryz.sizeOf3
  v3 := Tryz.zeroValue3
  t4 := Tryz.underlying4
  a4 := Tryz.isAgg4
  z4 := Tryz.sizeOf4
  v4 := Tryz.zeroValue4
  t9 := Tryz.underlying9
  a9 := Tryz.isAgg9
  z9 := Tryz.sizeOf9
  v9 := Tryz.zeroValue9
  t37 := Tryz.underlying40
  a37 := Tryz.isAgg40
  z37 := Tryz.sizeOf40
  v37 := Tryz.zeroValue40
  t75 := Tryz.underlying71
  a75 := Tryz.isAgg71
  z75 := Tryz.sizeOf71
  v75 := Tryz.zeroValue71
  t127 := Tryz.underlying206
  a127 := Tryz.isAgg206
  z127 := Tryz.sizeOf206
  v127 := Tryz.zeroValue206
  t168 := Tryz.underlying142
  a168 := Tryz.isAgg142
  z168 := Tryz.sizeOf142
  v168 := Tryz.zeroValue142
  t210 := Tryz.underlying163
  a210 := Tryz.isAgg163
  z210 := Tryz.sizeOf163
  v210 := Tryz.zeroValue163
  g15 := by kernel_rfl
  t5 := Tryz.underlying5
  a5 := Tryz.isAgg5
  z5 := Tryz.sizeOf5
  v5 := Tryz.zeroValue5
  t80 := Tryz.underlying67
  a80 := Tryz.isAgg67
  z80 := Tryz.sizeOf67
  v80 := Tryz.zeroValue67
  i0 := by kernel_rfl
  i3 := by kernel_rfl
  i4 := by kernel_rfl
  i5 := by kernel_rfl
  i9 := by kernel_rfl
  i37 := by kernel_rfl
  i75 := by kernel_rfl
  i80 := by kernel_rfl
  i127 := by kernel_rfl
  i168 := by kernel_rfl
  i210 := by kernel_rfl
  m15 := by kernel_rfl }
open Go.RowKit in
/-- strconv.syntaxError: '&NumError{fn, stringslite.Clone(str), ErrSyntax}': A POINTER TO A NEW BLOCK that holds fn, str's bytes, and what the variable ErrSyntax holds. Of what was there nothing has turned. (LAID: no walk: one application.) -/
theorem Tryz.strconv_syntaxError (fn s : ByteArray) (ev : Value) (w : World) (hlim : s.size ≤ 281474976710656) (hv : w.cell? ⟨2, 0, none⟩ = some ev) (hev : ev = .nilIface ∨ ∃ te pe, ev = .iface te pe) :
    Calls Tryz.prog 89 #[.string fn, .string s] w fun e w' => ∃ N, e = .returned (.pointer (some ⟨N, 0, none⟩)) ∧ w.heap.size ≤ N ∧ w'.heap[N]? = some (.cells #[.string fn, .string s, ev] 163 (0, 0)) ∧ Below w.heap.size w w' := Any.strconv_syntaxError Tryz.laysM279 fn s ev w hlim hv hev
def Tryz.laysC245_ren : Go.Shelf.Ren := ⟨fun | 245 => 70 | 279 => 89 | 280 => 90 | 281 => 91 | 282 => 92 | 316 => 106 | 171 => 66 | 205 => 107 | 243 => 87 | 246 => 104 | 283 => 129 | 284 => 130 | 285 => 131 | 286 => 132 | 129 => 157 | 317 => 160 | 318 => 169 | 319 => 170 | 320 => 171 | 337 => 221 | 338 => 222 | n => n, fun | 9 => 9 | 3 => 3 | 75 => 71 | 167 => 139 | 4 => 4 | 168 => 142 | 210 => 163 | 37 => 40 | 0 => 0 | 127 => 206 | 145 => 209 | 143 => 207 | 2 => 2 | 171 => 200 | 53 => 158 | 5 => 5 | 173 => 203 | 212 => 247 | 51 => 226 | 20 => 20 | 213 => 248 | 46 => 161 | 232 => 232 | 233 => 326 | 80 => 67 | n => n, fun | 15 => 2 | 16 => 3 | 17 => 10 | 18 => 24 | 19 => 25 | n => n⟩
theorem Tryz.laysC245 : Go.Proofs.LaysC.n245 Tryz.prog Tryz.laysC245_ren := {
  mixed := by kernel_rfl
  f129 := Tryz.func157.trans (congrArg some (by kernel_rfl))
  f171 := Tryz.func66.trans (congrArg some (by kernel_rfl))
  f205 := Tryz.func107.trans (congrArg some (by kernel_rfl))
  f243 := Tryz.func87.trans (congrArg some (by kernel_rfl))
  f245 := Tryz.func70.trans (congrArg some (by kernel_rfl))
  f246 := Tryz.func104.trans (congrArg some (by kernel_rfl))
  f279 := Tryz.func89.trans (congrArg some (by kernel_rfl))
  f280 := Tryz.func90.trans (congrArg some (by kernel_rfl))
  f281 := Tryz.func91.trans (congrArg some (by kernel_rfl))
  f282 := Tryz.func92.trans (congrArg some (by kernel_rfl))
  f283 := Tryz.func129.trans (congrArg some (by kernel_rfl))
  f284 := Tryz.func130.trans (congrArg some (by kernel_rfl))
  f285 := Tryz.func131.trans (congrArg some (by kernel_rfl))
  f286 := Tryz.func132.trans (congrArg some (by kernel_rfl))
  f316 := Tryz.func106.trans (congrArg some (by kernel_rfl))
  f317 := Tryz.func160.trans (congrArg some (by kernel_rfl))
  f318 := Tryz.func169.trans (congrArg some (by kernel_rfl))
  f319 := Tryz.func170.trans (congrArg some (by kernel_rfl))
  f320 := Tryz.func171.trans (congrArg some (by kernel_rfl))
  f337 := Tryz.func221.trans (congrArg some (by kernel_rfl))
  f338 := Tryz.func222.trans (congrArg some (by kernel_rfl))
  t0 := Tryz.underlying0
  a0 := Tryz.isAgg0
  z0 := Tryz.sizeOf0
  v0 := Tryz.zeroValue0
  t2 := Tryz.underlying2
  a2 := Tryz.isAgg2
  z2 := Tryz.sizeOf2
  v2 := Tryz.zeroValue2
  t3 := Tryz.underlying3
  a3 := Tryz.isAgg3
  z3 := Tryz.sizeOf3
  v3 := Tryz.zeroValue3
  t4 := Tryz.underlying4
  a4 := Tryz.isAgg4
  z4 := Tryz.sizeOf4
  v4 := Tryz.zeroValue4
  t5 := Tryz.underlying5
  a5 := Tryz.isAgg5
  z5 := Tryz.sizeOf5
  v5 := Tryz.zeroValue5
  t9 := Tryz.underlying9
  a9 := Tryz.isAgg9
  z9 := Tryz.sizeOf9
  v9 := Tryz.zeroValue9
  t20 := Tryz.underlying20
  a20 := Tryz.isAgg20
  z20 := Tryz.sizeOf20
  v20 := Tryz.zeroValue20
  t37 := Tryz.underlying40
  a37 := Tryz.isAgg40
  z37 := Tryz.sizeOf40
  v37 := Tryz.zeroValue40
  t46 := Tryz.underlying161
  a46 := Tryz.isAgg161
  z46 := Tryz.sizeOf161
  v46 := Tryz.zeroValue161
  t51 := Tryz.underlying226
  a51 := Tryz.isAgg226
  z51 := Tryz.sizeOf226
  v51 := Tryz.zeroValue226
  t53 := Tryz.underlying158
  a53 := Tryz.isAgg158
  z53 := Tryz.sizeOf158
  v53 := Tryz.zeroValue158
  t75 := Tryz.underlying71
  a75 := Tryz.isAgg71
  z75 := Tryz.sizeOf71
  v75 := Tryz.zeroValue71
  t127 := Tryz.underlying206
  a127 := Tryz.isAgg206
  z127 := Tryz.sizeOf206
  v127 := Tryz.zeroValue206
  t143 := Tryz.underlying207
  a143 := Tryz.isAgg207
  z143 := Tryz.sizeOf207
  v143 := Tryz.zeroValue207
  t145 := Tryz.underlying209
  a145 := Tryz.isAgg209
  z145 := Tryz.sizeOf209
  v145 := Tryz.zeroValue209
  t167 := Tryz.underlying139
  a167 := Tryz.isAgg139
  z167 := Tryz.sizeOf139
  v167 := Tryz.zeroValue139
  t168 := Tryz.underlying142
  a168 := Tryz.isAgg142
  z168 := Tryz.sizeOf142
  v168 := Tryz.zeroValue142
  t171 := Tryz.underlying200
  a171 := Tryz.isAgg200
  z171 := Tryz.sizeOf200
  v171 := Tryz.zeroValue200
  t173 := Tryz.underlying203
  a173 := Tryz.isAgg203
  z173 := Tryz.sizeOf203
  v173 := Tryz.zeroValue203
  t210 := Tryz.underlying163
  a210 := Tryz.isAgg163
  z210 := Tryz.sizeOf163
  v210 := Tryz.zeroValue163
  t212 := Tryz.underlying247
  a212 := Tryz.isAgg247
  z212 := Tryz.sizeOf247
  v212 := Tryz.zeroValue247
  t213 := Tryz.underlying248
  a213 := Tryz.isAgg248
  z213 := Tryz.sizeOf248
  t232 := Tryz.underlying232
  a232 := Tryz.isAgg232
  z232 := Tryz.sizeOf232
  v232 := Tryz.zeroValue232
  t233 := Tryz.underlying326
  a233 := Tryz.isAgg326
  z233 := Tryz.sizeOf326
  v233 := Tryz.zeroValue326
  g15 := by kernel_rfl
  g16 := by kernel_rfl
  g17 := by kernel_rfl
  g18 := by kernel_rfl
  g19 := by kernel_rfl
  t80 := Tryz.underlying67
  a80 := Tryz.isAgg67
  z80 := Tryz.sizeOf67
  v80 := Tryz.zeroValue67
  i0 := by kernel_rfl
  i2 := by kernel_rfl
  i3 := by kernel_rfl
  i4 := by kernel_rfl
  i5 := by kernel_rfl
  i9 := by kernel_rfl
  i20 := by kernel_rfl
  i37 := by kernel_rfl
  i46 := by kernel_rfl
  i51 := by kernel_rfl
  i53 := by kernel_rfl
  i75 := by kernel_rfl
  i80 := by kernel_rfl
  i127 := by kernel_rfl
  i143 := by kernel_rfl
  i145 := by kernel_rfl
  i167 := by kernel_rfl
  i168 := by kernel_rfl
  i171 := by kernel_rfl
  i173 := by kernel_rfl
  i210 := by kernel_rfl
  i212 := by kernel_rfl
  i232 := by kernel_rfl
  i233 := by kernel_rfl
  m15 := by kernel_rfl
  m16 := by kernel_rfl
  m17 := by kernel_rfl
  m18 := by kernel_rfl
  m19 := by kernel_rfl
  c0 := by kernel_rfl
  c2 := by kernel_rfl
  c3 := by kernel_rfl
  c4 := by kernel_rfl
  c5 := by kernel_rfl
  c9 := by kernel_rfl
  c20 := by kernel_rfl
  c37 := by kernel_rfl
  c46 := by kernel_rfl
  c51 := by kernel_rfl
  c53 := by kernel_rfl
  c75 := by kernel_rfl
  c80 := by kernel_rfl
  c127 := by kernel_rfl
  c143 := by kernel_rfl
  c145 := by kernel_rfl
  c167 := by kernel_rfl
  c168 := by kernel_rfl
  c171 := by kernel_rfl
  c173 := by kernel_rfl
  c210 := by kernel_rfl
  c212 := by kernel_rfl
  c213 := by kernel_rfl
  c232 := by kernel_rfl
  c233 := by kernel_rfl }
open Go.RowKit in
/-- strconv.toError, at the inner package's ErrSyntax: 'syntaxError(fn, s)' as an error: A *NumError IN A NEW BLOCK. (LAID: no walk: one application.) -/
theorem Tryz.strconv_toError_syntax (fn s : ByteArray) (base bits : Int) (ev : Value) (w : World) (hlim : s.size ≤ 281474976710656) (hv : w.cell? ⟨2, 0, none⟩ = some ev) (hev : ev = .nilIface ∨ ∃ te pe, ev = .iface te pe) :
    Calls Tryz.prog 70 #[.string fn, .string s, .int .i64 base, .int .i64 bits, .iface 139 (.int .i64 2)] w fun e w' => ∃ N, e = .returned (.iface 142 (.pointer (some ⟨N, 0, none⟩))) ∧ w.heap.size ≤ N ∧ w'.heap[N]? = some (.cells #[.string fn, .string s, ev] 163 (0, 0)) ∧ Below w.heap.size w w' := Any.strconv_toError_syntax Tryz.laysC245 fn s base bits ev w hlim hv hev
def Tryz.lays321_ren : Go.Shelf.Ren := ⟨fun | 321 => 133 | n => n, fun | 5 => 5 | n => n, fun | n => n⟩
theorem Tryz.lays321 : Go.Proofs.Lays.n321 Tryz.prog Tryz.lays321_ren := {
  mixed := by kernel_rfl
  f321 := Tryz.func133.trans (congrArg some (by kernel_rfl))
  t5 := Tryz.underlying5
  a5 := Tryz.isAgg5
  z5 := Tryz.sizeOf5
  v5 := Tryz.zeroValue5 }
open Go.RowKit in
/-- internal/strconv.lower: 'c | ('x' - 'X')': the bit 32 set. The world is as it was. (LAID: no walk: one application.) -/
theorem Tryz.internal_strconv_lower (c : Int) (w : World) :
    Calls Tryz.prog 133 #[.int .u8 c] w fun e w' => e = .returned (.int .u8 (bits .or .u8 c 32)) ∧ w' = w := Any.internal_strconv_lower Tryz.lays321 c w
def Tryz.lays287_ren : Go.Shelf.Ren := ⟨fun | 287 => 105 | 321 => 133 | 322 => 134 | n => n, fun | 9 => 9 | 3 => 3 | 53 => 158 | 75 => 71 | 4 => 4 | 167 => 139 | 5 => 5 | 46 => 161 | 37 => 40 | 0 => 0 | 21 => 21 | 80 => 67 | n => n, fun | n => n⟩
theorem Tryz.lays287 : Go.Proofs.Lays.n287 Tryz.prog Tryz.lays287_ren := {
  mixed := by kernel_rfl
  f287 := Tryz.func105.trans (congrArg some (by kernel_rfl))
  f321 := Tryz.func133.trans (congrArg some (by kernel_rfl))
  f322 := Tryz.func134.trans (congrArg some (by kernel_rfl))
  t0 := Tryz.underlying0
  a0 := Tryz.isAgg0
  z0 := Tryz.sizeOf0
  v0 := Tryz.zeroValue0
  t3 := Tryz.underlying3
  a3 := Tryz.isAgg3
  z3 := Tryz.sizeOf3
  v3 := Tryz.zeroValue3
  t4 := Tryz.underlying4
  a4 := Tryz.isAgg4
  z4 := Tryz.sizeOf4
  v4 := Tryz.zeroValue4
  t5 := Tryz.underlying5
  a5 := Tryz.isAgg5
  z5 := Tryz.sizeOf5
  v5 := Tryz.zeroValue5
  t9 := Tryz.underlying9
  a9 := Tryz.isAgg9
  z9 := Tryz.sizeOf9
  v9 := Tryz.zeroValue9
  t21 := Tryz.underlying21
  a21 := Tryz.isAgg21
  z21 := Tryz.sizeOf21
  v21 := Tryz.zeroValue21
  t37 := Tryz.underlying40
  a37 := Tryz.isAgg40
  z37 := Tryz.sizeOf40
  v37 := Tryz.zeroValue40
  t46 := Tryz.underlying161
  a46 := Tryz.isAgg161
  z46 := Tryz.sizeOf161
  v46 := Tryz.zeroValue161
  t53 := Tryz.underlying158
  a53 := Tryz.isAgg158
  z53 := Tryz.sizeOf158
  v53 := Tryz.zeroValue158
  t75 := Tryz.underlying71
  a75 := Tryz.isAgg71
  z75 := Tryz.sizeOf71
  v75 := Tryz.zeroValue71
  t167 := Tryz.underlying139
  a167 := Tryz.isAgg139
  z167 := Tryz.sizeOf139
  v167 := Tryz.zeroValue139 }
open Go.RowKit in
/-- internal/strconv.ParseUint(s, 10, 0), s NOT EMPTY: 'Lib.parseUint10 0' OF ITS BYTES: the number; or (0, ErrSyntax); or (the greatest uint64, ErrRange). The world behind the call: the one new row that '[]byte(s)' lays. (LAID: no walk: one application.) -/
theorem Tryz.internal_strconv_ParseUint_10 (t : ByteArray) (hne : t.size ≠ 0) (hmax : t.size ≤ 9223372036854775806) (w : World) :
    Calls Tryz.prog 105 #[.string t, .int .i64 10, .int .i64 0] w fun e w' => e = .returned (Lib.uintTuple 139 (Lib.parseUint10 0 t.data.toList)) ∧ w' = Lib.bytesWorld w 5 t := Any.internal_strconv_ParseUint_10 Tryz.lays287 t hne hmax w
open Go.RowKit in
/-- internal/strconv.ParseUint(s, 10, 0): 'Lib.parseMag' OF ITS BYTES. The world: as it was (the empty string), or with the one new row that '[]byte(s)' lays. (LAID: no walk: one application.) -/
theorem Tryz.internal_strconv_ParseUint_10_any (t : ByteArray) (hmax : t.size ≤ 9223372036854775806) (w : World) :
    Calls Tryz.prog 105 #[.string t, .int .i64 10, .int .i64 0] w fun e w' => e = .returned (Lib.uintTuple 139 (Lib.parseMag t.data.toList)) ∧ (w' = w ∨ w' = Lib.bytesWorld w 5 t) := Any.internal_strconv_ParseUint_10_any Tryz.lays287 t hmax w
def Tryz.laysC247_ren : Go.Shelf.Ren := ⟨fun | 247 => 88 | 287 => 105 | 321 => 133 | 322 => 134 | n => n, fun | 9 => 9 | 3 => 3 | 2 => 2 | 75 => 71 | 4 => 4 | 167 => 139 | 5 => 5 | 53 => 158 | 175 => 159 | 46 => 161 | 37 => 40 | 0 => 0 | 21 => 21 | 80 => 67 | n => n, fun | n => n⟩
theorem Tryz.laysC247 : Go.Proofs.LaysC.n247 Tryz.prog Tryz.laysC247_ren := {
  mixed := by kernel_rfl
  f247 := Tryz.func88.trans (congrArg some (by kernel_rfl))
  f287 := Tryz.func105.trans (congrArg some (by kernel_rfl))
  f321 := Tryz.func133.trans (congrArg some (by kernel_rfl))
  f322 := Tryz.func134.trans (congrArg some (by kernel_rfl))
  t0 := Tryz.underlying0
  a0 := Tryz.isAgg0
  z0 := Tryz.sizeOf0
  v0 := Tryz.zeroValue0
  t2 := Tryz.underlying2
  a2 := Tryz.isAgg2
  z2 := Tryz.sizeOf2
  v2 := Tryz.zeroValue2
  t3 := Tryz.underlying3
  a3 := Tryz.isAgg3
  z3 := Tryz.sizeOf3
  v3 := Tryz.zeroValue3
  t4 := Tryz.underlying4
  a4 := Tryz.isAgg4
  z4 := Tryz.sizeOf4
  v4 := Tryz.zeroValue4
  t5 := Tryz.underlying5
  a5 := Tryz.isAgg5
  z5 := Tryz.sizeOf5
  v5 := Tryz.zeroValue5
  t9 := Tryz.underlying9
  a9 := Tryz.isAgg9
  z9 := Tryz.sizeOf9
  v9 := Tryz.zeroValue9
  t21 := Tryz.underlying21
  a21 := Tryz.isAgg21
  z21 := Tryz.sizeOf21
  v21 := Tryz.zeroValue21
  t37 := Tryz.underlying40
  a37 := Tryz.isAgg40
  z37 := Tryz.sizeOf40
  v37 := Tryz.zeroValue40
  t46 := Tryz.underlying161
  a46 := Tryz.isAgg161
  z46 := Tryz.sizeOf161
  v46 := Tryz.zeroValue161
  t53 := Tryz.underlying158
  a53 := Tryz.isAgg158
  z53 := Tryz.sizeOf158
  v53 := Tryz.zeroValue158
  t75 := Tryz.underlying71
  a75 := Tryz.isAgg71
  z75 := Tryz.sizeOf71
  v75 := Tryz.zeroValue71
  t167 := Tryz.underlying139
  a167 := Tryz.isAgg139
  z167 := Tryz.sizeOf139
  v167 := Tryz.zeroValue139
  t175 := Tryz.underlying159
  a175 := Tryz.isAgg159
  z175 := Tryz.sizeOf159
  v175 := Tryz.zeroValue159
  t80 := Tryz.underlying67
  a80 := Tryz.isAgg67
  z80 := Tryz.sizeOf67
  v80 := Tryz.zeroValue67
  i0 := by kernel_rfl
  i2 := by kernel_rfl
  i3 := by kernel_rfl
  i4 := by kernel_rfl
  i5 := by kernel_rfl
  i9 := by kernel_rfl
  i21 := by kernel_rfl
  i37 := by kernel_rfl
  i46 := by kernel_rfl
  i53 := by kernel_rfl
  i75 := by kernel_rfl
  i80 := by kernel_rfl
  i167 := by kernel_rfl
  i175 := by kernel_rfl
  c0 := by kernel_rfl
  c2 := by kernel_rfl
  c3 := by kernel_rfl
  c4 := by kernel_rfl
  c5 := by kernel_rfl
  c9 := by kernel_rfl
  c21 := by kernel_rfl
  c37 := by kernel_rfl
  c46 := by kernel_rfl
  c53 := by kernel_rfl
  c75 := by kernel_rfl
  c80 := by kernel_rfl
  c167 := by kernel_rfl
  c175 := by kernel_rfl }
open Go.RowKit in
/-- internal/strconv.ParseInt(s, 10, 0), s NOT EMPTY: 'Lib.atoiAll' OF ITS BYTES: (the number, nil); (0, ErrSyntax); (the greatest or the least int64 by the sign, ErrRange). The world: as it was, or with the one new row that '[]byte(..)' lays. (LAID: no walk: one application.) -/
theorem Tryz.internal_strconv_ParseInt_10 (s : ByteArray) (hne : s.size ≠ 0) (hmax : s.size ≤ 9223372036854775806) (w : World) :
    Calls Tryz.prog 88 #[.string s, .int .i64 10, .int .i64 0] w fun e w' => e = .returned (Lib.intTuple 139 (Lib.atoiSat s.data.toList) (Lib.atoiAll s.data.toList)) ∧ (w' = w ∨ ∃ t, w' = Lib.bytesWorld w 5 t) := Any.internal_strconv_ParseInt_10 Tryz.laysC247 s hne hmax w
def Tryz.laysC244_ren : Go.Shelf.Ren := ⟨fun | 244 => 69 | 247 => 88 | 287 => 105 | 321 => 133 | 322 => 134 | n => n, fun | 9 => 9 | 3 => 3 | 75 => 71 | 4 => 4 | 5 => 5 | 167 => 139 | 37 => 40 | 0 => 0 | 85 => 140 | 2 => 2 | 53 => 158 | 175 => 159 | 46 => 161 | 21 => 21 | 80 => 67 | n => n, fun | n => n⟩
theorem Tryz.laysC244 : Go.Proofs.LaysC.n244 Tryz.prog Tryz.laysC244_ren := {
  mixed := by kernel_rfl
  f244 := Tryz.func69.trans (congrArg some (by kernel_rfl))
  f247 := Tryz.func88.trans (congrArg some (by kernel_rfl))
  f287 := Tryz.func105.trans (congrArg some (by kernel_rfl))
  f321 := Tryz.func133.trans (congrArg some (by kernel_rfl))
  f322 := Tryz.func134.trans (congrArg some (by kernel_rfl))
  t0 := Tryz.underlying0
  a0 := Tryz.isAgg0
  z0 := Tryz.sizeOf0
  v0 := Tryz.zeroValue0
  t2 := Tryz.underlying2
  a2 := Tryz.isAgg2
  z2 := Tryz.sizeOf2
  v2 := Tryz.zeroValue2
  t3 := Tryz.underlying3
  a3 := Tryz.isAgg3
  z3 := Tryz.sizeOf3
  v3 := Tryz.zeroValue3
  t4 := Tryz.underlying4
  a4 := Tryz.isAgg4
  z4 := Tryz.sizeOf4
  v4 := Tryz.zeroValue4
  t5 := Tryz.underlying5
  a5 := Tryz.isAgg5
  z5 := Tryz.sizeOf5
  v5 := Tryz.zeroValue5
  t9 := Tryz.underlying9
  a9 := Tryz.isAgg9
  z9 := Tryz.sizeOf9
  v9 := Tryz.zeroValue9
  t21 := Tryz.underlying21
  a21 := Tryz.isAgg21
  z21 := Tryz.sizeOf21
  v21 := Tryz.zeroValue21
  t37 := Tryz.underlying40
  a37 := Tryz.isAgg40
  z37 := Tryz.sizeOf40
  v37 := Tryz.zeroValue40
  t46 := Tryz.underlying161
  a46 := Tryz.isAgg161
  z46 := Tryz.sizeOf161
  v46 := Tryz.zeroValue161
  t53 := Tryz.underlying158
  a53 := Tryz.isAgg158
  z53 := Tryz.sizeOf158
  v53 := Tryz.zeroValue158
  t75 := Tryz.underlying71
  a75 := Tryz.isAgg71
  z75 := Tryz.sizeOf71
  v75 := Tryz.zeroValue71
  t85 := Tryz.underlying140
  a85 := Tryz.isAgg140
  z85 := Tryz.sizeOf140
  v85 := Tryz.zeroValue140
  t167 := Tryz.underlying139
  a167 := Tryz.isAgg139
  z167 := Tryz.sizeOf139
  v167 := Tryz.zeroValue139
  t175 := Tryz.underlying159
  a175 := Tryz.isAgg159
  z175 := Tryz.sizeOf159
  v175 := Tryz.zeroValue159
  t80 := Tryz.underlying67
  a80 := Tryz.isAgg67
  z80 := Tryz.sizeOf67
  v80 := Tryz.zeroValue67
  i0 := by kernel_rfl
  i2 := by kernel_rfl
  i3 := by kernel_rfl
  i4 := by kernel_rfl
  i5 := by kernel_rfl
  i9 := by kernel_rfl
  i21 := by kernel_rfl
  i37 := by kernel_rfl
  i46 := by kernel_rfl
  i53 := by kernel_rfl
  i75 := by kernel_rfl
  i80 := by kernel_rfl
  i85 := by kernel_rfl
  i167 := by kernel_rfl
  i175 := by kernel_rfl
  c0 := by kernel_rfl
  c2 := by kernel_rfl
  c3 := by kernel_rfl
  c4 := by kernel_rfl
  c5 := by kernel_rfl
  c9 := by kernel_rfl
  c21 := by kernel_rfl
  c37 := by kernel_rfl
  c46 := by kernel_rfl
  c53 := by kernel_rfl
  c75 := by kernel_rfl
  c80 := by kernel_rfl
  c85 := by kernel_rfl
  c167 := by kernel_rfl
  c175 := by kernel_rfl }
open Go.RowKit in
/-- internal/strconv.Atoi, AT EVERY STRING OF 19 BYTES OR MORE: 'Lib.atoiAll' OF ITS BYTES: (the number, nil); (0, ErrSyntax); (the greatest or the least int by the sign, ErrRange). (LAID: no walk: one application.) -/
theorem Tryz.internal_strconv_Atoi_long (s : ByteArray) (h19 : 19 ≤ s.size) (hmax : s.size ≤ 9223372036854775806) (w : World) :
    Calls Tryz.prog 69 #[.string s] w fun e w' => e = .returned (Lib.intTuple 139 (Lib.atoiSat s.data.toList) (Lib.atoiAll s.data.toList)) ∧ (w' = w ∨ ∃ t, w' = Lib.bytesWorld w 5 t) := Any.internal_strconv_Atoi_long Tryz.laysC244 s h19 hmax w
open Go.RowKit in
/-- internal/strconv.Atoi, AT EVERY STRING: 'Lib.atoiAll' OF ITS BYTES: (the number, nil); (0, ErrSyntax); (the greatest or the least int by the sign, ErrRange). The world: as it was, or with the one new row that '[]byte(..)' lays. (LAID: no walk: one application.) -/
theorem Tryz.internal_strconv_Atoi_all (s : ByteArray) (hmax : s.size ≤ 9223372036854775806) (w : World) :
    Calls Tryz.prog 69 #[.string s] w fun e w' => e = .returned (Lib.intTuple 139 (Lib.atoiSat s.data.toList) (Lib.atoiAll s.data.toList)) ∧ (w' = w ∨ ∃ t, w' = Lib.bytesWorld w 5 t) := Any.internal_strconv_Atoi_all Tryz.laysC244 s hmax w
def Tryz.laysM280_ren : Go.Shelf.Ren := ⟨fun | 280 => 90 | 316 => 106 | n => n, fun | 9 => 9 | 168 => 142 | 75 => 71 | 210 => 163 | 3 => 3 | 4 => 4 | 37 => 40 | 0 => 0 | 127 => 206 | 80 => 67 | 5 => 5 | n => n, fun | 16 => 3 | n => n⟩
theorem Tryz.laysM280 : Go.Proofs.LaysM.n280 Tryz.prog Tryz.laysM280_ren := {
  mixed := by kernel_rfl
  f280 := Tryz.func90.trans (congrArg some (by kernel_rfl))
  f316 := Tryz.func106.trans (congrArg some (by kernel_rfl))
  t0 := Tryz.underlying0
  a0 := Tryz.isAgg0
  z0 := Tryz.sizeOf0
  v0 := Tryz.zeroValue0
  t3 := Tryz.underlying3
  a3 := Tryz.isAgg3
  z3 := Tryz.sizeOf3
  v3 := Tryz.zeroValue3
  t4 := Tryz.underlying4
  a4 := Tryz.isAgg4
  z4 := Tryz.sizeOf4
  v4 := Tryz.zeroValue4
  t9 := Tryz.underlying9
  a9 := Tryz.isAgg9
  z9 := Tryz.sizeOf9
  v9 := Tryz.zeroValue9
  t37 := Tryz.underlying40
  a37 := Tryz.isAgg40
  z37 := Tryz.sizeOf40
  v37 := Tryz.zeroValue40
  t75 := Tryz.underlying71
  a75 := Tryz.isAgg71
  z75 := Tryz.sizeOf71
  v75 := Tryz.zeroValue71
  t127 := Tryz.underlying206
  a127 := Tryz.isAgg206
  z127 := Tryz.sizeOf206
  v127 := Tryz.zeroValue206
  t168 := Tryz.underlying142
  a168 := Tryz.isAgg142
  z168 := Tryz.sizeOf142
  v168 := Tryz.zeroValue142
  t210 := Tryz.underlying163
  a210 := Tryz.isAgg163
  z210 := Tryz.sizeOf163
  v210 := Tryz.zeroValue163
  g16 := by kernel_rfl
  t5 := Tryz.underlying5
  a5 := Tryz.isAgg5
  z5 := Tryz.sizeOf5
  v5 := Tryz.zeroValue5
  t80 := Tryz.underlying67
  a80 := Tryz.isAgg67
  z80 := Tryz.sizeOf67
  v80 := Tryz.zeroValue67
  i0 := by kernel_rfl
  i3 := by kernel_rfl
  i4 := by kernel_rfl
  i5 := by kernel_rfl
  i9 := by kernel_rfl
  i37 := by kernel_rfl
  i75 := by kernel_rfl
  i80 := by kernel_rfl
  i127 := by kernel_rfl
  i168 := by kernel_rfl
  i210 := by kernel_rfl
  m16 := by kernel_rfl }
open Go.RowKit in
/-- strconv.rangeError: '&NumError{fn, stringslite.Clone(str), ErrRange}': A POINTER TO A NEW BLOCK that holds fn, str's bytes, and what the variable ErrRange holds. Of what was there nothing has turned. (LAID: no walk: one application.) -/
theorem Tryz.strconv_rangeError (fn s : ByteArray) (ev : Value) (w : World) (hlim : s.size ≤ 281474976710656) (hv : w.cell? ⟨3, 0, none⟩ = some ev) (hev : ev = .nilIface ∨ ∃ te pe, ev = .iface te pe) :
    Calls Tryz.prog 90 #[.string fn, .string s] w fun e w' => ∃ N, e = .returned (.pointer (some ⟨N, 0, none⟩)) ∧ w.heap.size ≤ N ∧ w'.heap[N]? = some (.cells #[.string fn, .string s, ev] 163 (0, 0)) ∧ Below w.heap.size w w' := Any.strconv_rangeError Tryz.laysM280 fn s ev w hlim hv hev
open Go.RowKit in
/-- strconv.toError, at the inner package's ErrRange: 'rangeError(fn, s)' as an error: A *NumError IN A NEW BLOCK. (LAID: no walk: one application.) -/
theorem Tryz.strconv_toError_range (fn s : ByteArray) (base bits : Int) (ev : Value) (w : World) (hlim : s.size ≤ 281474976710656) (hv : w.cell? ⟨3, 0, none⟩ = some ev) (hev : ev = .nilIface ∨ ∃ te pe, ev = .iface te pe) :
    Calls Tryz.prog 70 #[.string fn, .string s, .int .i64 base, .int .i64 bits, .iface 139 (.int .i64 1)] w fun e w' => ∃ N, e = .returned (.iface 142 (.pointer (some ⟨N, 0, none⟩))) ∧ w.heap.size ≤ N ∧ w'.heap[N]? = some (.cells #[.string fn, .string s, ev] 163 (0, 0)) ∧ Below w.heap.size w w' := Any.strconv_toError_range Tryz.laysC245 fn s base bits ev w hlim hv hev
def Tryz.laysC172_ren : Go.Shelf.Ren := ⟨fun | 172 => 34 | 244 => 69 | 245 => 70 | 247 => 88 | 279 => 89 | 280 => 90 | 281 => 91 | 282 => 92 | 287 => 105 | 316 => 106 | 171 => 66 | 205 => 107 | 321 => 133 | 322 => 134 | 243 => 87 | 246 => 104 | 283 => 129 | 284 => 130 | 285 => 131 | 286 => 132 | 129 => 157 | 317 => 160 | 318 => 169 | 319 => 170 | 320 => 171 | 337 => 221 | 338 => 222 | n => n, fun | 9 => 9 | 3 => 3 | 75 => 71 | 76 => 83 | 4 => 4 | 5 => 5 | 167 => 139 | 37 => 40 | 0 => 0 | 85 => 140 | 2 => 2 | 168 => 142 | 53 => 158 | 175 => 159 | 46 => 161 | 210 => 163 | 127 => 206 | 145 => 209 | 143 => 207 | 21 => 21 | 171 => 200 | 173 => 203 | 212 => 247 | 51 => 226 | 20 => 20 | 213 => 248 | 232 => 232 | 233 => 326 | 80 => 67 | n => n, fun | 15 => 2 | 16 => 3 | 17 => 10 | 18 => 24 | 19 => 25 | n => n⟩
theorem Tryz.laysC172 : Go.Proofs.LaysC.n172 Tryz.prog Tryz.laysC172_ren := {
  mixed := by kernel_rfl
  f129 := Tryz.func157.trans (congrArg some (by kernel_rfl))
  f171 := Tryz.func66.trans (congrArg some (by kernel_rfl))
  f172 := Tryz.func34.trans (congrArg some (by kernel_rfl))
  f205 := Tryz.func107.trans (congrArg some (by kernel_rfl))
  f243 := Tryz.func87.trans (congrArg some (by kernel_rfl))
  f244 := Tryz.func69.trans (congrArg some (by kernel_rfl))
  f245 := Tryz.func70.trans (congrArg some (by kernel_rfl))
  f246 := Tryz.func104.trans (congrArg some (by kernel_rfl))
  f247 := Tryz.func88.trans (congrArg some (by kernel_rfl))
  f279 := Tryz.func89.trans (congrArg some (by kernel_rfl))
  f280 := Tryz.func90.trans (congrArg some (by kernel_rfl))
  f281 := Tryz.func91.trans (congrArg some (by kernel_rfl))
  f282 := Tryz.func92.trans (congrArg some (by kernel_rfl))
  f283 := Tryz.func129.trans (congrArg some (by kernel_rfl))
  f284 := Tryz.func130.trans (congrArg some (by kernel_rfl))
  f285 := Tryz.func131.trans (congrArg some (by kernel_rfl))
  f286 := Tryz.func132.trans (congrArg some (by kernel_rfl))
  f287 := Tryz.func105.trans (congrArg some (by kernel_rfl))
  f316 := Tryz.func106.trans (congrArg some (by kernel_rfl))
  f317 := Tryz.func160.trans (congrArg some (by kernel_rfl))
  f318 := Tryz.func169.trans (congrArg some (by kernel_rfl))
  f319 := Tryz.func170.trans (congrArg some (by kernel_rfl))
  f320 := Tryz.func171.trans (congrArg some (by kernel_rfl))
  f321 := Tryz.func133.trans (congrArg some (by kernel_rfl))
  f322 := Tryz.func134.trans (congrArg some (by kernel_rfl))
  f337 := Tryz.func221.trans (congrArg some (by kernel_rfl))
  f338 := Tryz.func222.trans (congrArg some (by kernel_rfl))
  t0 := Tryz.underlying0
  a0 := Tryz.isAgg0
  z0 := Tryz.sizeOf0
  v0 := Tryz.zeroValue0
  t2 := Tryz.underlying2
  a2 := Tryz.isAgg2
  z2 := Tryz.sizeOf2
  v2 := Tryz.zeroValue2
  t3 := Tryz.underlying3
  a3 := Tryz.isAgg3
  z3 := Tryz.sizeOf3
  v3 := Tryz.zeroValue3
  t4 := Tryz.underlying4
  a4 := Tryz.isAgg4
  z4 := Tryz.sizeOf4
  v4 := Tryz.zeroValue4
  t5 := Tryz.underlying5
  a5 := Tryz.isAgg5
  z5 := Tryz.sizeOf5
  v5 := Tryz.zeroValue5
  t9 := Tryz.underlying9
  a9 := Tryz.isAgg9
  z9 := Tryz.sizeOf9
  v9 := Tryz.zeroValue9
  t20 := Tryz.underlying20
  a20 := Tryz.isAgg20
  z20 := Tryz.sizeOf20
  v20 := Tryz.zeroValue20
  t21 := Tryz.underlying21
  a21 := Tryz.isAgg21
  z21 := Tryz.sizeOf21
  v21 := Tryz.zeroValue21
  t37 := Tryz.underlying40
  a37 := Tryz.isAgg40
  z37 := Tryz.sizeOf40
  v37 := Tryz.zeroValue40
  t46 := Tryz.underlying161
  a46 := Tryz.isAgg161
  z46 := Tryz.sizeOf161
  v46 := Tryz.zeroValue161
  t51 := Tryz.underlying226
  a51 := Tryz.isAgg226
  z51 := Tryz.sizeOf226
  v51 := Tryz.zeroValue226
  t53 := Tryz.underlying158
  a53 := Tryz.isAgg158
  z53 := Tryz.sizeOf158
  v53 := Tryz.zeroValue158
  t75 := Tryz.underlying71
  a75 := Tryz.isAgg71
  z75 := Tryz.sizeOf71
  v75 := Tryz.zeroValue71
  t76 := Tryz.underlying83
  a76 := Tryz.isAgg83
  z76 := Tryz.sizeOf83
  v76 := Tryz.zeroValue83
  t85 := Tryz.underlying140
  a85 := Tryz.isAgg140
  z85 := Tryz.sizeOf140
  v85 := Tryz.zeroValue140
  t127 := Tryz.underlying206
  a127 := Tryz.isAgg206
  z127 := Tryz.sizeOf206
  v127 := Tryz.zeroValue206
  t143 := Tryz.underlying207
  a143 := Tryz.isAgg207
  z143 := Tryz.sizeOf207
  v143 := Tryz.zeroValue207
  t145 := Tryz.underlying209
  a145 := Tryz.isAgg209
  z145 := Tryz.sizeOf209
  v145 := Tryz.zeroValue209
  t167 := Tryz.underlying139
  a167 := Tryz.isAgg139
  z167 := Tryz.sizeOf139
  v167 := Tryz.zeroValue139
  t168 := Tryz.underlying142
  a168 := Tryz.isAgg142
  z168 := Tryz.sizeOf142
  v168 := Tryz.zeroValue142
  t171 := Tryz.underlying200
  a171 := Tryz.isAgg200
  z171 := Tryz.sizeOf200
  v171 := Tryz.zeroValue200
  t173 := Tryz.underlying203
  a173 := Tryz.isAgg203
  z173 := Tryz.sizeOf203
  v173 := Tryz.zeroValue203
  t175 := Tryz.underlying159
  a175 := Tryz.isAgg159
  z175 := Tryz.sizeOf159
  v175 := Tryz.zeroValue159
  t210 := Tryz.underlying163
  a210 := Tryz.isAgg163
  z210 := Tryz.sizeOf163
  v210 := Tryz.zeroValue163
  t212 := Tryz.underlying247
  a212 := Tryz.isAgg247
  z212 := Tryz.sizeOf247
  v212 := Tryz.zeroValue247
  t213 := Tryz.underlying248
  a213 := Tryz.isAgg248
  z213 := Tryz.sizeOf248
  t232 := Tryz.underlying232
  a232 := Tryz.isAgg232
  z232 := Tryz.sizeOf232
  v232 := Tryz.zeroValue232
  t233 := Tryz.underlying326
  a233 := Tryz.isAgg326
  z233 := Tryz.sizeOf326
  v233 := Tryz.zeroValue326
  g15 := by kernel_rfl
  g16 := by kernel_rfl
  g17 := by kernel_rfl
  g18 := by kernel_rfl
  g19 := by kernel_rfl
  t80 := Tryz.underlying67
  a80 := Tryz.isAgg67
  z80 := Tryz.sizeOf67
  v80 := Tryz.zeroValue67
  i0 := by kernel_rfl
  i2 := by kernel_rfl
  i3 := by kernel_rfl
  i4 := by kernel_rfl
  i5 := by kernel_rfl
  i9 := by kernel_rfl
  i20 := by kernel_rfl
  i21 := by kernel_rfl
  i37 := by kernel_rfl
  i46 := by kernel_rfl
  i51 := by kernel_rfl
  i53 := by kernel_rfl
  i75 := by kernel_rfl
  i76 := by kernel_rfl
  i80 := by kernel_rfl
  i85 := by kernel_rfl
  i127 := by kernel_rfl
  i143 := by kernel_rfl
  i145 := by kernel_rfl
  i167 := by kernel_rfl
  i168 := by kernel_rfl
  i171 := by kernel_rfl
  i173 := by kernel_rfl
  i175 := by kernel_rfl
  i210 := by kernel_rfl
  i212 := by kernel_rfl
  i232 := by kernel_rfl
  i233 := by kernel_rfl
  m15 := by kernel_rfl
  m16 := by kernel_rfl
  m17 := by kernel_rfl
  m18 := by kernel_rfl
  m19 := by kernel_rfl
  c0 := by kernel_rfl
  c2 := by kernel_rfl
  c3 := by kernel_rfl
  c4 := by kernel_rfl
  c5 := by kernel_rfl
  c9 := by kernel_rfl
  c20 := by kernel_rfl
  c21 := by kernel_rfl
  c37 := by kernel_rfl
  c46 := by kernel_rfl
  c51 := by kernel_rfl
  c53 := by kernel_rfl
  c75 := by kernel_rfl
  c76 := by kernel_rfl
  c80 := by kernel_rfl
  c85 := by kernel_rfl
  c127 := by kernel_rfl
  c143 := by kernel_rfl
  c145 := by kernel_rfl
  c167 := by kernel_rfl
  c168 := by kernel_rfl
  c171 := by kernel_rfl
  c173 := by kernel_rfl
  c175 := by kernel_rfl
  c210 := by kernel_rfl
  c212 := by kernel_rfl
  c213 := by kernel_rfl
  c232 := by kernel_rfl
  c233 := by kernel_rfl }
open Go.RowKit in
/-- strconv.Atoi, AT EVERY STRING THAT SPELLS AN int ('Lib.atoiAll .. = .ok v'; of whatever length: leading zeros count): v, AND NO ERROR. The world: as it was, or with the one new row that '[]byte(..)' lays. (LAID: no walk: one application.) -/
theorem Tryz.strconv_Atoi_ok (s : ByteArray) (hmax : s.size ≤ 9223372036854775806) (v : Int) (h : Lib.atoiAll s.data.toList = .ok v) (w : World) :
    Calls Tryz.prog 34 #[.string s] w fun e w' => e = .returned (.tuple #[.int .i64 v, .nilIface]) ∧ (w' = w ∨ ∃ t, w' = Lib.bytesWorld w 5 t) := Any.strconv_Atoi_ok Tryz.laysC172 s hmax v h w
open Go.RowKit in
/-- strconv.Atoi, AT EVERY STRING THAT IS NO DECIMAL NUMERAL ('.syntax'): 0, AND AN ERROR THAT IS NOT nil: a *NumError in a new block N: {Func: "Atoi", Num: s's bytes, Err: what the variable ErrSyntax holds}. Of what was there nothing has turned. (LAID: no walk: one application.) -/
theorem Tryz.strconv_Atoi_syntax (s : ByteArray) (hlim : s.size ≤ 281474976710656) (h : Lib.atoiAll s.data.toList = Lib.atoiAll []) (ev : Value) (w : World) (hv : w.cell? ⟨2, 0, none⟩ = some ev) (hev : ev = .nilIface ∨ ∃ te pe, ev = .iface te pe) :
    Calls Tryz.prog 34 #[.string s] w fun e w' => ∃ N, e = .returned (.tuple #[.int .i64 (0), .iface 142 (.pointer (some ⟨N, 0, none⟩))]) ∧ w.heap.size ≤ N ∧ w'.heap[N]? = some (.cells #[.string ⟨#[65, 116, 111, 105]⟩, .string s, ev] 163 (0, 0)) ∧ Below w.heap.size w w' := Any.strconv_Atoi_syntax Tryz.laysC172 s hlim h ev w hv hev
open Go.RowKit in
/-- strconv.Atoi, AT EVERY NUMERAL THAT NO int HOLDS ('.range'): THE GREATEST OR THE LEAST int, BY THE SIGN ('Lib.atoiSat'), AND AN ERROR THAT IS NOT nil: a *NumError in a new block N: {Func: "Atoi", Num: s's bytes, Err: what the variable ErrRange holds}. Of what was there nothing has turned. (LAID: no walk: one application.) -/
theorem Tryz.strconv_Atoi_range (s : ByteArray) (hlim : s.size ≤ 281474976710656) (h : Lib.atoiAll s.data.toList = .range) (ev : Value) (w : World) (hv : w.cell? ⟨3, 0, none⟩ = some ev) (hev : ev = .nilIface ∨ ∃ te pe, ev = .iface te pe) :
    Calls Tryz.prog 34 #[.string s] w fun e w' => ∃ N, e = .returned (.tuple #[.int .i64 (Lib.atoiSat s.data.toList), .iface 142 (.pointer (some ⟨N, 0, none⟩))]) ∧ w.heap.size ≤ N ∧ w'.heap[N]? = some (.cells #[.string ⟨#[65, 116, 111, 105]⟩, .string s, ev] 163 (0, 0)) ∧ Below w.heap.size w w' := Any.strconv_Atoi_range Tryz.laysC172 s hlim h ev w hv hev
open Go.RowKit in
theorem Tryz.strconv_Atoi_syntax_var (s : ByteArray) (hlim : s.size ≤ 281474976710656) (h : Lib.atoiAll s.data.toList = Lib.atoiAll []) (tp : TypeId) (p : Value) (w : World) (hvar : w.var? Tryz.prog "strconv.ErrSyntax" = some #[.iface tp p]) :
    Calls Tryz.prog 34 #[.string s] w fun e w' => ∃ N, e = .returned (.tuple #[.int .i64 0, .iface 142 (.pointer (some ⟨N, 0, none⟩))]) ∧ w.heap.size ≤ N ∧ w'.heap[N]? = some (.cells #[.string ⟨#[65, 116, 111, 105]⟩, .string s, .iface tp p] 163 (0, 0)) ∧ Below w.heap.size w w' := Any.strconv_Atoi_syntax_var Tryz.laysC172 s hlim h tp p w hvar
open Go.RowKit in
theorem Tryz.strconv_Atoi_range_var (s : ByteArray) (hlim : s.size ≤ 281474976710656) (h : Lib.atoiAll s.data.toList = .range) (tp : TypeId) (p : Value) (w : World) (hvar : w.var? Tryz.prog "strconv.ErrRange" = some #[.iface tp p]) :
    Calls Tryz.prog 34 #[.string s] w fun e w' => ∃ N, e = .returned (.tuple #[.int .i64 (Lib.atoiSat s.data.toList), .iface 142 (.pointer (some ⟨N, 0, none⟩))]) ∧ w.heap.size ≤ N ∧ w'.heap[N]? = some (.cells #[.string ⟨#[65, 116, 111, 105]⟩, .string s, .iface tp p] 163 (0, 0)) ∧ Below w.heap.size w w' := Any.strconv_Atoi_range_var Tryz.laysC172 s hlim h tp p w hvar
def Tryz.lays190_ren : Go.Shelf.Ren := ⟨fun | 190 => 108 | 125 => 136 | 258 => 135 | 128 => 181 | 129 => 157 | 302 => 172 | 303 => 173 | 304 => 174 | 305 => 175 | 306 => 176 | 307 => 177 | 308 => 178 | 309 => 179 | 310 => 180 | 333 => 223 | 329 => 224 | 330 => 225 | 334 => 226 | 335 => 227 | 336 => 228 | 344 => 244 | n => n, fun | 31 => 25 | 9 => 9 | 3 => 3 | 46 => 161 | 0 => 0 | 51 => 226 | 53 => 158 | 4 => 4 | 183 => 252 | 182 => 251 | 131 => 256 | 5 => 5 | 218 => 303 | 222 => 59 | 228 => 327 | 229 => 235 | n => n, fun | n => n⟩
theorem Tryz.lays190 : Go.Proofs.Lays.n190 Tryz.prog Tryz.lays190_ren := {
  mixed := by kernel_rfl
  f125 := Tryz.func136.trans (congrArg some (by kernel_rfl))
  f128 := Tryz.func181.trans (congrArg some (by kernel_rfl))
  f129 := Tryz.func157.trans (congrArg some (by kernel_rfl))
  f190 := Tryz.func108.trans (congrArg some (by kernel_rfl))
  f258 := Tryz.func135.trans (congrArg some (by kernel_rfl))
  f302 := Tryz.func172.trans (congrArg some (by kernel_rfl))
  f303 := Tryz.func173.trans (congrArg some (by kernel_rfl))
  f304 := Tryz.func174.trans (congrArg some (by kernel_rfl))
  f305 := Tryz.func175.trans (congrArg some (by kernel_rfl))
  f306 := Tryz.func176.trans (congrArg some (by kernel_rfl))
  f307 := Tryz.func177.trans (congrArg some (by kernel_rfl))
  f308 := Tryz.func178.trans (congrArg some (by kernel_rfl))
  f309 := Tryz.func179.trans (congrArg some (by kernel_rfl))
  f310 := Tryz.func180.trans (congrArg some (by kernel_rfl))
  f329 := Tryz.func224.trans (congrArg some (by kernel_rfl))
  f330 := Tryz.func225.trans (congrArg some (by kernel_rfl))
  f333 := Tryz.func223.trans (congrArg some (by kernel_rfl))
  f334 := Tryz.func226.trans (congrArg some (by kernel_rfl))
  f335 := Tryz.func227.trans (congrArg some (by kernel_rfl))
  f336 := Tryz.func228.trans (congrArg some (by kernel_rfl))
  f344 := Tryz.func244.trans (congrArg some (by kernel_rfl))
  t0 := Tryz.underlying0
  a0 := Tryz.isAgg0
  z0 := Tryz.sizeOf0
  v0 := Tryz.zeroValue0
  t3 := Tryz.underlying3
  a3 := Tryz.isAgg3
  z3 := Tryz.sizeOf3
  v3 := Tryz.zeroValue3
  t4 := Tryz.underlying4
  a4 := Tryz.isAgg4
  z4 := Tryz.sizeOf4
  v4 := Tryz.zeroValue4
  t5 := Tryz.underlying5
  a5 := Tryz.isAgg5
  z5 := Tryz.sizeOf5
  v5 := Tryz.zeroValue5
  t9 := Tryz.underlying9
  a9 := Tryz.isAgg9
  z9 := Tryz.sizeOf9
  v9 := Tryz.zeroValue9
  t31 := Tryz.underlying25
  a31 := Tryz.isAgg25
  z31 := Tryz.sizeOf25
  v31 := Tryz.zeroValue25
  t46 := Tryz.underlying161
  a46 := Tryz.isAgg161
  z46 := Tryz.sizeOf161
  v46 := Tryz.zeroValue161
  t51 := Tryz.underlying226
  a51 := Tryz.isAgg226
  z51 := Tryz.sizeOf226
  v51 := Tryz.zeroValue226
  t53 := Tryz.underlying158
  a53 := Tryz.isAgg158
  z53 := Tryz.sizeOf158
  v53 := Tryz.zeroValue158
  t131 := Tryz.underlying256
  a131 := Tryz.isAgg256
  z131 := Tryz.sizeOf256
  v131 := Tryz.zeroValue256
  t182 := Tryz.underlying251
  a182 := Tryz.isAgg251
  z182 := Tryz.sizeOf251
  v182 := Tryz.zeroValue251
  t183 := Tryz.underlying252
  a183 := Tryz.isAgg252
  z183 := Tryz.sizeOf252
  v183 := Tryz.zeroValue252
  t218 := Tryz.underlying303
  a218 := Tryz.isAgg303
  z218 := Tryz.sizeOf303
  v218 := Tryz.zeroValue303
  t222 := Tryz.underlying59
  a222 := Tryz.isAgg59
  z222 := Tryz.sizeOf59
  v222 := Tryz.zeroValue59
  t228 := Tryz.underlying327
  a228 := Tryz.isAgg327
  z228 := Tryz.sizeOf327
  v228 := Tryz.zeroValue327
  t229 := Tryz.underlying235
  a229 := Tryz.isAgg235
  z229 := Tryz.sizeOf235
  v229 := Tryz.zeroValue235 }
open Go.Sort Go.RowKit in
theorem Tryz.slices_Sort_string (blk off cap : Nat) (ss : List (List UInt8)) (w : World) (hH : Holds encStr w blk off ss.toArray) (hblk : blk < w.heap.size) (hsz : ss.length < 4611686018427387904) :
    Calls Tryz.prog 108 #[.slice (some ⟨blk, off, none⟩) ss.length cap] w fun e w' =>
      e = .returned (.tuple #[]) ∧ ∃ n os, w' = grow (putRow encStr (Sort.ahead w n) blk off (ss.mergeSort fun x y => decide (x ≤ y)).toArray) os := Any.slices_Sort_string Tryz.lays190 blk off cap ss w hH hblk hsz
def Tryz.lays192_ren : Go.Shelf.Ren := ⟨fun | 192 => 94 | 190 => 108 | 125 => 136 | 258 => 135 | 128 => 181 | 129 => 157 | 302 => 172 | 303 => 173 | 304 => 174 | 305 => 175 | 306 => 176 | 307 => 177 | 308 => 178 | 309 => 179 | 310 => 180 | 333 => 223 | 329 => 224 | 330 => 225 | 334 => 226 | 335 => 227 | 336 => 228 | 344 => 244 | n => n, fun | 31 => 25 | 0 => 0 | 9 => 9 | 3 => 3 | 46 => 161 | 51 => 226 | 53 => 158 | 4 => 4 | 183 => 252 | 182 => 251 | 131 => 256 | 5 => 5 | 218 => 303 | 222 => 59 | 228 => 327 | 229 => 235 | n => n, fun | n => n⟩
theorem Tryz.lays192 : Go.Proofs.Lays.n192 Tryz.prog Tryz.lays192_ren := {
  mixed := by kernel_rfl
  f125 := Tryz.func136.trans (congrArg some (by kernel_rfl))
  f128 := Tryz.func181.trans (congrArg some (by kernel_rfl))
  f129 := Tryz.func157.trans (congrArg some (by kernel_rfl))
  f190 := Tryz.func108.trans (congrArg some (by kernel_rfl))
  f192 := Tryz.func94.trans (congrArg some (by kernel_rfl))
  f258 := Tryz.func135.trans (congrArg some (by kernel_rfl))
  f302 := Tryz.func172.trans (congrArg some (by kernel_rfl))
  f303 := Tryz.func173.trans (congrArg some (by kernel_rfl))
  f304 := Tryz.func174.trans (congrArg some (by kernel_rfl))
  f305 := Tryz.func175.trans (congrArg some (by kernel_rfl))
  f306 := Tryz.func176.trans (congrArg some (by kernel_rfl))
  f307 := Tryz.func177.trans (congrArg some (by kernel_rfl))
  f308 := Tryz.func178.trans (congrArg some (by kernel_rfl))
  f309 := Tryz.func179.trans (congrArg some (by kernel_rfl))
  f310 := Tryz.func180.trans (congrArg some (by kernel_rfl))
  f329 := Tryz.func224.trans (congrArg some (by kernel_rfl))
  f330 := Tryz.func225.trans (congrArg some (by kernel_rfl))
  f333 := Tryz.func223.trans (congrArg some (by kernel_rfl))
  f334 := Tryz.func226.trans (congrArg some (by kernel_rfl))
  f335 := Tryz.func227.trans (congrArg some (by kernel_rfl))
  f336 := Tryz.func228.trans (congrArg some (by kernel_rfl))
  f344 := Tryz.func244.trans (congrArg some (by kernel_rfl))
  t0 := Tryz.underlying0
  a0 := Tryz.isAgg0
  z0 := Tryz.sizeOf0
  v0 := Tryz.zeroValue0
  t3 := Tryz.underlying3
  a3 := Tryz.isAgg3
  z3 := Tryz.sizeOf3
  v3 := Tryz.zeroValue3
  t4 := Tryz.underlying4
  a4 := Tryz.isAgg4
  z4 := Tryz.sizeOf4
  v4 := Tryz.zeroValue4
  t5 := Tryz.underlying5
  a5 := Tryz.isAgg5
  z5 := Tryz.sizeOf5
  v5 := Tryz.zeroValue5
  t9 := Tryz.underlying9
  a9 := Tryz.isAgg9
  z9 := Tryz.sizeOf9
  v9 := Tryz.zeroValue9
  t31 := Tryz.underlying25
  a31 := Tryz.isAgg25
  z31 := Tryz.sizeOf25
  v31 := Tryz.zeroValue25
  t46 := Tryz.underlying161
  a46 := Tryz.isAgg161
  z46 := Tryz.sizeOf161
  v46 := Tryz.zeroValue161
  t51 := Tryz.underlying226
  a51 := Tryz.isAgg226
  z51 := Tryz.sizeOf226
  v51 := Tryz.zeroValue226
  t53 := Tryz.underlying158
  a53 := Tryz.isAgg158
  z53 := Tryz.sizeOf158
  v53 := Tryz.zeroValue158
  t131 := Tryz.underlying256
  a131 := Tryz.isAgg256
  z131 := Tryz.sizeOf256
  v131 := Tryz.zeroValue256
  t182 := Tryz.underlying251
  a182 := Tryz.isAgg251
  z182 := Tryz.sizeOf251
  v182 := Tryz.zeroValue251
  t183 := Tryz.underlying252
  a183 := Tryz.isAgg252
  z183 := Tryz.sizeOf252
  v183 := Tryz.zeroValue252
  t218 := Tryz.underlying303
  a218 := Tryz.isAgg303
  z218 := Tryz.sizeOf303
  v218 := Tryz.zeroValue303
  t222 := Tryz.underlying59
  a222 := Tryz.isAgg59
  z222 := Tryz.sizeOf59
  v222 := Tryz.zeroValue59
  t228 := Tryz.underlying327
  a228 := Tryz.isAgg327
  z228 := Tryz.sizeOf327
  v228 := Tryz.zeroValue327
  t229 := Tryz.underlying235
  a229 := Tryz.isAgg235
  z229 := Tryz.sizeOf235
  v229 := Tryz.zeroValue235 }
open Go.Sort Go.RowKit in
theorem Tryz.sort_Strings (blk off cap : Nat) (ss : List (List UInt8)) (w : World) (hH : Holds encStr w blk off ss.toArray) (hblk : blk < w.heap.size) (hsz : ss.length < 4611686018427387904) :
    Calls Tryz.prog 94 #[.slice (some ⟨blk, off, none⟩) ss.length cap] w fun e w' =>
      e = .returned (.tuple #[]) ∧ ∃ n os, w' = grow (putRow encStr (Sort.ahead w n) blk off (ss.mergeSort fun x y => decide (x ≤ y)).toArray) os := Any.sort_Strings Tryz.lays192 blk off cap ss w hH hblk hsz
def Tryz.lays315_ren : Go.Shelf.Ren := ⟨fun | 315 => 137 | n => n, fun | 9 => 9 | 40 => 165 | 4 => 4 | 3 => 3 | 0 => 0 | 21 => 21 | n => n, fun | n => n⟩
theorem Tryz.lays315 : Go.Proofs.Lays.n315 Tryz.prog Tryz.lays315_ren := {
  mixed := by kernel_rfl
  f315 := Tryz.func137.trans (congrArg some (by kernel_rfl))
  t0 := Tryz.underlying0
  a0 := Tryz.isAgg0
  z0 := Tryz.sizeOf0
  v0 := Tryz.zeroValue0
  t3 := Tryz.underlying3
  a3 := Tryz.isAgg3
  z3 := Tryz.sizeOf3
  v3 := Tryz.zeroValue3
  t4 := Tryz.underlying4
  a4 := Tryz.isAgg4
  z4 := Tryz.sizeOf4
  v4 := Tryz.zeroValue4
  t9 := Tryz.underlying9
  a9 := Tryz.isAgg9
  z9 := Tryz.sizeOf9
  v9 := Tryz.zeroValue9
  t21 := Tryz.underlying21
  a21 := Tryz.isAgg21
  z21 := Tryz.sizeOf21
  v21 := Tryz.zeroValue21
  t40 := Tryz.underlying165
  a40 := Tryz.isAgg165
  z40 := Tryz.sizeOf165
  v40 := Tryz.zeroValue165 }
open Go.RowKit Go.Lib in
theorem Tryz.strings_indexFunc (g : Nat) (lb : Array Value) (eg : ∀ args w, (callFunc g args).run Tryz.prog w = .ok (.enter g args) w) (p : Nat → Bool) (truth : Bool) (s : ByteArray) (w : World) (hp : PredAt Tryz.prog g lb encR p w) :
    Calls Tryz.prog 137 #[.string s, .func (.func g) #[] lb, .bool truth] w fun e w' => e = .returned (.int .i64 (Lib.idxFunc p truth s)) ∧ Below w.heap.size w w' := Any.strings_indexFunc Tryz.lays315 g lb eg p truth s w hp
def Tryz.lays273_ren : Go.Shelf.Ren := ⟨fun | 273 => 247 | 271 => 250 | 120 => 252 | 197 => 248 | 260 => 251 | n => n, fun | 9 => 9 | 40 => 165 | 4 => 4 | 3 => 3 | 105 => 331 | 21 => 21 | 5 => 5 | 119 => 333 | 0 => 0 | 46 => 161 | 139 => 336 | 138 => 335 | n => n, fun | 3 => 26 | 4 => 27 | n => n⟩
theorem Tryz.lays273 : Go.Proofs.Lays.n273 Tryz.prog Tryz.lays273_ren := {
  mixed := by kernel_rfl
  f120 := Tryz.func252.trans (congrArg some (by kernel_rfl))
  f197 := Tryz.func248.trans (congrArg some (by kernel_rfl))
  f260 := Tryz.func251.trans (congrArg some (by kernel_rfl))
  f271 := Tryz.func250.trans (congrArg some (by kernel_rfl))
  f273 := Tryz.func247.trans (congrArg some (by kernel_rfl))
  t0 := Tryz.underlying0
  a0 := Tryz.isAgg0
  z0 := Tryz.sizeOf0
  v0 := Tryz.zeroValue0
  t3 := Tryz.underlying3
  a3 := Tryz.isAgg3
  z3 := Tryz.sizeOf3
  v3 := Tryz.zeroValue3
  t4 := Tryz.underlying4
  a4 := Tryz.isAgg4
  z4 := Tryz.sizeOf4
  v4 := Tryz.zeroValue4
  t5 := Tryz.underlying5
  a5 := Tryz.isAgg5
  z5 := Tryz.sizeOf5
  v5 := Tryz.zeroValue5
  t9 := Tryz.underlying9
  a9 := Tryz.isAgg9
  z9 := Tryz.sizeOf9
  v9 := Tryz.zeroValue9
  t21 := Tryz.underlying21
  a21 := Tryz.isAgg21
  z21 := Tryz.sizeOf21
  v21 := Tryz.zeroValue21
  t40 := Tryz.underlying165
  a40 := Tryz.isAgg165
  z40 := Tryz.sizeOf165
  v40 := Tryz.zeroValue165
  t46 := Tryz.underlying161
  a46 := Tryz.isAgg161
  z46 := Tryz.sizeOf161
  v46 := Tryz.zeroValue161
  t105 := Tryz.underlying331
  a105 := Tryz.isAgg331
  z105 := Tryz.sizeOf331
  v105 := Tryz.zeroValue331
  t119 := Tryz.underlying333
  a119 := Tryz.isAgg333
  z119 := Tryz.sizeOf333
  t138 := Tryz.underlying335
  a138 := Tryz.isAgg335
  z138 := Tryz.sizeOf335
  v138 := Tryz.zeroValue335
  t139 := Tryz.underlying336
  a139 := Tryz.isAgg336
  z139 := Tryz.sizeOf336
  v139 := Tryz.zeroValue336
  g3 := by kernel_rfl
  g4 := by kernel_rfl }
open Go.RowKit Go.Lib in
theorem Tryz.strings_lastIndexFunc (g : Nat) (lb : Array Value) (eg : ∀ args w, (callFunc g args).run Tryz.prog w = .ok (.enter g args) w) (p : Nat → Bool) (truth : Bool) (s : ByteArray) (w : World) (hs : s.size ≤ 9223372036854775807) (hT : Lib.Utf8Tabs 26 27 w) (hp : PredAt Tryz.prog g lb encR p w) :
    Calls Tryz.prog 247 #[.string s, .func (.func g) #[] lb, .bool truth] w fun e w' => e = .returned (.int .i64 (Lib.lastIdxFunc p truth s)) ∧ Below w.heap.size w w' := Any.strings_lastIndexFunc Tryz.lays273 g lb eg p truth s w hs hT hp
def Tryz.lays272_ren : Go.Shelf.Ren := ⟨fun | 272 => 112 | 315 => 137 | n => n, fun | 9 => 9 | 40 => 165 | 4 => 4 | 3 => 3 | 0 => 0 | 21 => 21 | n => n, fun | n => n⟩
theorem Tryz.lays272 : Go.Proofs.Lays.n272 Tryz.prog Tryz.lays272_ren := {
  mixed := by kernel_rfl
  f272 := Tryz.func112.trans (congrArg some (by kernel_rfl))
  f315 := Tryz.func137.trans (congrArg some (by kernel_rfl))
  t0 := Tryz.underlying0
  a0 := Tryz.isAgg0
  z0 := Tryz.sizeOf0
  v0 := Tryz.zeroValue0
  t3 := Tryz.underlying3
  a3 := Tryz.isAgg3
  z3 := Tryz.sizeOf3
  v3 := Tryz.zeroValue3
  t4 := Tryz.underlying4
  a4 := Tryz.isAgg4
  z4 := Tryz.sizeOf4
  v4 := Tryz.zeroValue4
  t9 := Tryz.underlying9
  a9 := Tryz.isAgg9
  z9 := Tryz.sizeOf9
  v9 := Tryz.zeroValue9
  t21 := Tryz.underlying21
  a21 := Tryz.isAgg21
  z21 := Tryz.sizeOf21
  v21 := Tryz.zeroValue21
  t40 := Tryz.underlying165
  a40 := Tryz.isAgg165
  z40 := Tryz.sizeOf165
  v40 := Tryz.zeroValue165 }
open Go.RowKit Go.Lib in
theorem Tryz.strings_TrimLeftFunc (g : Nat) (lb : Array Value) (eg : ∀ args w, (callFunc g args).run Tryz.prog w = .ok (.enter g args) w) (p : Nat → Bool) (s : ByteArray) (w : World) (hp : PredAt Tryz.prog g lb encR p w) :
    Calls Tryz.prog 112 #[.string s, .func (.func g) #[] lb] w fun e w' => e = .returned (.string (Lib.trimLeftF p s)) ∧ Below w.heap.size w w' := Any.strings_TrimLeftFunc Tryz.lays272 g lb eg p s w hp
def Tryz.lays238_ren : Go.Shelf.Ren := ⟨fun | 238 => 234 | 273 => 247 | 197 => 248 | 271 => 250 | 260 => 251 | 120 => 252 | n => n, fun | 9 => 9 | 40 => 165 | 4 => 4 | 3 => 3 | 105 => 331 | 21 => 21 | 5 => 5 | 119 => 333 | 0 => 0 | 46 => 161 | 139 => 336 | 138 => 335 | n => n, fun | 3 => 26 | 4 => 27 | n => n⟩
theorem Tryz.lays238 : Go.Proofs.Lays.n238 Tryz.prog Tryz.lays238_ren := {
  mixed := by kernel_rfl
  f120 := Tryz.func252.trans (congrArg some (by kernel_rfl))
  f197 := Tryz.func248.trans (congrArg some (by kernel_rfl))
  f238 := Tryz.func234.trans (congrArg some (by kernel_rfl))
  f260 := Tryz.func251.trans (congrArg some (by kernel_rfl))
  f271 := Tryz.func250.trans (congrArg some (by kernel_rfl))
  f273 := Tryz.func247.trans (congrArg some (by kernel_rfl))
  t0 := Tryz.underlying0
  a0 := Tryz.isAgg0
  z0 := Tryz.sizeOf0
  v0 := Tryz.zeroValue0
  t3 := Tryz.underlying3
  a3 := Tryz.isAgg3
  z3 := Tryz.sizeOf3
  v3 := Tryz.zeroValue3
  t4 := Tryz.underlying4
  a4 := Tryz.isAgg4
  z4 := Tryz.sizeOf4
  v4 := Tryz.zeroValue4
  t5 := Tryz.underlying5
  a5 := Tryz.isAgg5
  z5 := Tryz.sizeOf5
  v5 := Tryz.zeroValue5
  t9 := Tryz.underlying9
  a9 := Tryz.isAgg9
  z9 := Tryz.sizeOf9
  v9 := Tryz.zeroValue9
  t21 := Tryz.underlying21
  a21 := Tryz.isAgg21
  z21 := Tryz.sizeOf21
  v21 := Tryz.zeroValue21
  t40 := Tryz.underlying165
  a40 := Tryz.isAgg165
  z40 := Tryz.sizeOf165
  v40 := Tryz.zeroValue165
  t46 := Tryz.underlying161
  a46 := Tryz.isAgg161
  z46 := Tryz.sizeOf161
  v46 := Tryz.zeroValue161
  t105 := Tryz.underlying331
  a105 := Tryz.isAgg331
  z105 := Tryz.sizeOf331
  v105 := Tryz.zeroValue331
  t119 := Tryz.underlying333
  a119 := Tryz.isAgg333
  z119 := Tryz.sizeOf333
  t138 := Tryz.underlying335
  a138 := Tryz.isAgg335
  z138 := Tryz.sizeOf335
  v138 := Tryz.zeroValue335
  t139 := Tryz.underlying336
  a139 := Tryz.isAgg336
  z139 := Tryz.sizeOf336
  v139 := Tryz.zeroValue336
  g3 := by kernel_rfl
  g4 := by kernel_rfl }
open Go.RowKit Go.Lib in
theorem Tryz.strings_TrimRightFunc (g : Nat) (lb : Array Value) (eg : ∀ args w, (callFunc g args).run Tryz.prog w = .ok (.enter g args) w) (p : Nat → Bool) (s : ByteArray) (w : World) (hs : s.size ≤ 9223372036854775807) (hT : Lib.Utf8Tabs 26 27 w) (hp : PredAt Tryz.prog g lb encR p w) :
    Calls Tryz.prog 234 #[.string s, .func (.func g) #[] lb] w fun e w' => e = .returned (.string (Lib.trimRightF p s)) ∧ Below w.heap.size w w' := Any.strings_TrimRightFunc Tryz.lays238 g lb eg p s w hs hT hp
open Go.RowKit Go.Lib in
theorem Tryz.strings_indexFunc_runes (g : Nat) (lb : Array Value) (eg : ∀ args w, (callFunc g args).run Tryz.prog w = .ok (.enter g args) w) (p : Nat → Bool) (truth : Bool) (s : ByteArray) (w : World) (hp : PredAtRunes Tryz.prog g lb p w) :
    Calls Tryz.prog 137 #[.string s, .func (.func g) #[] lb, .bool truth] w fun e w' => e = .returned (.int .i64 (Lib.idxFunc p truth s)) ∧ Below w.heap.size w w' := Any.strings_indexFunc_runes Tryz.lays315 g lb eg p truth s w hp
open Go.RowKit Go.Lib in
theorem Tryz.strings_lastIndexFunc_runes (g : Nat) (lb : Array Value) (eg : ∀ args w, (callFunc g args).run Tryz.prog w = .ok (.enter g args) w) (p : Nat → Bool) (truth : Bool) (s : ByteArray) (w : World) (hs : s.size ≤ 9223372036854775807) (hT : Lib.Utf8Tabs 26 27 w) (hp : PredAtRunes Tryz.prog g lb p w) :
    Calls Tryz.prog 247 #[.string s, .func (.func g) #[] lb, .bool truth] w fun e w' => e = .returned (.int .i64 (Lib.lastIdxFunc p truth s)) ∧ Below w.heap.size w w' := Any.strings_lastIndexFunc_runes Tryz.lays273 g lb eg p truth s w hs hT hp
open Go.RowKit Go.Lib in
theorem Tryz.strings_TrimLeftFunc_runes (g : Nat) (lb : Array Value) (eg : ∀ args w, (callFunc g args).run Tryz.prog w = .ok (.enter g args) w) (p : Nat → Bool) (s : ByteArray) (w : World) (hp : PredAtRunes Tryz.prog g lb p w) :
    Calls Tryz.prog 112 #[.string s, .func (.func g) #[] lb] w fun e w' => e = .returned (.string (Lib.trimLeftF p s)) ∧ Below w.heap.size w w' := Any.strings_TrimLeftFunc_runes Tryz.lays272 g lb eg p s w hp
open Go.RowKit Go.Lib in
theorem Tryz.strings_TrimRightFunc_runes (g : Nat) (lb : Array Value) (eg : ∀ args w, (callFunc g args).run Tryz.prog w = .ok (.enter g args) w) (p : Nat → Bool) (s : ByteArray) (w : World) (hs : s.size ≤ 9223372036854775807) (hT : Lib.Utf8Tabs 26 27 w) (hp : PredAtRunes Tryz.prog g lb p w) :
    Calls Tryz.prog 234 #[.string s, .func (.func g) #[] lb] w fun e w' => e = .returned (.string (Lib.trimRightF p s)) ∧ Below w.heap.size w w' := Any.strings_TrimRightFunc_runes Tryz.lays238 g lb eg p s w hs hT hp
def Tryz.lays206_ren : Go.Shelf.Ren := ⟨fun | 206 => 182 | n => n, fun | 9 => 9 | 4 => 4 | 3 => 3 | n => n, fun | n => n⟩
theorem Tryz.lays206 : Go.Proofs.Lays.n206 Tryz.prog Tryz.lays206_ren := {
  mixed := by kernel_rfl
  f206 := Tryz.func182.trans (congrArg some (by kernel_rfl))
  t3 := Tryz.underlying3
  a3 := Tryz.isAgg3
  z3 := Tryz.sizeOf3
  v3 := Tryz.zeroValue3
  t4 := Tryz.underlying4
  a4 := Tryz.isAgg4
  z4 := Tryz.sizeOf4
  v4 := Tryz.zeroValue4
  t9 := Tryz.underlying9
  a9 := Tryz.isAgg9
  z9 := Tryz.sizeOf9
  v9 := Tryz.zeroValue9 }
open Go.RowKit Go.Lib in
/-- internal/stringslite.HasPrefix (what strings.HasPrefix calls). (LAID: no walk: one application.) -/
theorem Tryz.stringslite_HasPrefix (s p : ByteArray) (w : World) :
    Calls Tryz.prog 182 #[.string s, .string p] w fun e w' => e = .returned (.bool (Lib.hasPrefix s.data.toList p.data.toList)) ∧ w' = w := Any.stringslite_HasPrefix Tryz.lays206 s p w
def Tryz.lays99_ren : Go.Shelf.Ren := ⟨fun | 99 => 138 | 206 => 182 | n => n, fun | 9 => 9 | 4 => 4 | 3 => 3 | n => n, fun | n => n⟩
theorem Tryz.lays99 : Go.Proofs.Lays.n99 Tryz.prog Tryz.lays99_ren := {
  mixed := by kernel_rfl
  f99 := Tryz.func138.trans (congrArg some (by kernel_rfl))
  f206 := Tryz.func182.trans (congrArg some (by kernel_rfl))
  t3 := Tryz.underlying3
  a3 := Tryz.isAgg3
  z3 := Tryz.sizeOf3
  v3 := Tryz.zeroValue3
  t4 := Tryz.underlying4
  a4 := Tryz.isAgg4
  z4 := Tryz.sizeOf4
  v4 := Tryz.zeroValue4
  t9 := Tryz.underlying9
  a9 := Tryz.isAgg9
  z9 := Tryz.sizeOf9
  v9 := Tryz.zeroValue9 }
open Go.RowKit Go.Lib in
/-- strings.HasPrefix: "HasPrefix reports whether the string s begins with prefix.": IT RETURNS 'Lib.hasPrefix s prefix'; the world is as it was. (LAID: no walk: one application.) -/
theorem Tryz.strings_HasPrefix (s p : ByteArray) (w : World) :
    Calls Tryz.prog 138 #[.string s, .string p] w fun e w' => e = .returned (.bool (Lib.hasPrefix s.data.toList p.data.toList)) ∧ w' = w := Any.strings_HasPrefix Tryz.lays99 s p w
def Tryz.lays197_ren : Go.Shelf.Ren := ⟨fun | 197 => 248 | 260 => 251 | n => n, fun | 9 => 9 | 21 => 21 | 3 => 3 | 4 => 4 | 5 => 5 | 105 => 331 | 119 => 333 | 0 => 0 | 46 => 161 | 139 => 336 | 138 => 335 | n => n, fun | 3 => 26 | 4 => 27 | n => n⟩
theorem Tryz.lays197 : Go.Proofs.Lays.n197 Tryz.prog Tryz.lays197_ren := {
  mixed := by kernel_rfl
  f197 := Tryz.func248.trans (congrArg some (by kernel_rfl))
  f260 := Tryz.func251.trans (congrArg some (by kernel_rfl))
  t0 := Tryz.underlying0
  a0 := Tryz.isAgg0
  z0 := Tryz.sizeOf0
  v0 := Tryz.zeroValue0
  t3 := Tryz.underlying3
  a3 := Tryz.isAgg3
  z3 := Tryz.sizeOf3
  v3 := Tryz.zeroValue3
  t4 := Tryz.underlying4
  a4 := Tryz.isAgg4
  z4 := Tryz.sizeOf4
  v4 := Tryz.zeroValue4
  t5 := Tryz.underlying5
  a5 := Tryz.isAgg5
  z5 := Tryz.sizeOf5
  v5 := Tryz.zeroValue5
  t9 := Tryz.underlying9
  a9 := Tryz.isAgg9
  z9 := Tryz.sizeOf9
  v9 := Tryz.zeroValue9
  t21 := Tryz.underlying21
  a21 := Tryz.isAgg21
  z21 := Tryz.sizeOf21
  v21 := Tryz.zeroValue21
  t46 := Tryz.underlying161
  a46 := Tryz.isAgg161
  z46 := Tryz.sizeOf161
  v46 := Tryz.zeroValue161
  t105 := Tryz.underlying331
  a105 := Tryz.isAgg331
  z105 := Tryz.sizeOf331
  v105 := Tryz.zeroValue331
  t119 := Tryz.underlying333
  a119 := Tryz.isAgg333
  z119 := Tryz.sizeOf333
  t138 := Tryz.underlying335
  a138 := Tryz.isAgg335
  z138 := Tryz.sizeOf335
  v138 := Tryz.zeroValue335
  t139 := Tryz.underlying336
  a139 := Tryz.isAgg336
  z139 := Tryz.sizeOf336
  v139 := Tryz.zeroValue336
  g3 := by kernel_rfl
  g4 := by kernel_rfl }
open Go.RowKit Go.Lib in
/-- unicode/utf8.DecodeRuneInString: "DecodeRuneInString is like DecodeRune but its input is a string.": ("DecodeRune unpacks the first UTF-8 encoding in p and returns the rune and its width in bytes."): WHERE s BEGINS WITH AN ASCII BYTE x: (x, 1). (LAID: no walk: one application.) -/
theorem Tryz.utf8_DecodeRuneInString_ascii (s : ByteArray) (x : UInt8) (w : World) (h0 : s.data.toList[0]? = some x) (hx : x.toNat < 128) :
    Calls Tryz.prog 248 #[.string s] w fun e w' => e = .returned (.tuple #[.int .i32 x.toNat, .int .i64 1]) ∧ w' = w := Any.utf8_DecodeRuneInString_ascii Tryz.lays197 s x w h0 hx
def Tryz.lays264_ren : Go.Shelf.Ren := ⟨fun | 264 => 241 | n => n, fun | 53 => 158 | 46 => 161 | n => n, fun | n => n⟩
theorem Tryz.lays264 : Go.Proofs.Lays.n264 Tryz.prog Tryz.lays264_ren := {
  mixed := by kernel_rfl
  f264 := Tryz.func241.trans (congrArg some (by kernel_rfl))
  t46 := Tryz.underlying161
  a46 := Tryz.isAgg161
  z46 := Tryz.sizeOf161
  v46 := Tryz.zeroValue161
  t53 := Tryz.underlying158
  a53 := Tryz.isAgg158
  z53 := Tryz.sizeOf158
  v53 := Tryz.zeroValue158 }
open Go.RowKit Go.Lib in
theorem Tryz.bits_Mul64 (x y : Nat) (hx : x < 18446744073709551616) (hy : y < 18446744073709551616) (w : World) :
    Calls Tryz.prog 241 #[.int .u64 x, .int .u64 y] w fun e w' => e = .returned (.tuple #[.int .u64 ((x * y / 18446744073709551616 : Nat) : Int), .int .u64 ((x * y % 18446744073709551616 : Nat) : Int)]) ∧ w' = w := Any.bits_Mul64 Tryz.lays264 x y hx hy w
def Tryz.lays260_ren : Go.Shelf.Ren := ⟨fun | 260 => 251 | n => n, fun | 9 => 9 | 21 => 21 | 3 => 3 | 4 => 4 | 5 => 5 | 119 => 333 | 0 => 0 | 46 => 161 | 139 => 336 | 138 => 335 | n => n, fun | 3 => 26 | 4 => 27 | n => n⟩
theorem Tryz.lays260 : Go.Proofs.Lays.n260 Tryz.prog Tryz.lays260_ren := {
  mixed := by kernel_rfl
  f260 := Tryz.func251.trans (congrArg some (by kernel_rfl))
  t0 := Tryz.underlying0
  a0 := Tryz.isAgg0
  z0 := Tryz.sizeOf0
  v0 := Tryz.zeroValue0
  t3 := Tryz.underlying3
  a3 := Tryz.isAgg3
  z3 := Tryz.sizeOf3
  v3 := Tryz.zeroValue3
  t4 := Tryz.underlying4
  a4 := Tryz.isAgg4
  z4 := Tryz.sizeOf4
  v4 := Tryz.zeroValue4
  t5 := Tryz.underlying5
  a5 := Tryz.isAgg5
  z5 := Tryz.sizeOf5
  v5 := Tryz.zeroValue5
  t9 := Tryz.underlying9
  a9 := Tryz.isAgg9
  z9 := Tryz.sizeOf9
  v9 := Tryz.zeroValue9
  t21 := Tryz.underlying21
  a21 := Tryz.isAgg21
  z21 := Tryz.sizeOf21
  v21 := Tryz.zeroValue21
  t46 := Tryz.underlying161
  a46 := Tryz.isAgg161
  z46 := Tryz.sizeOf161
  v46 := Tryz.zeroValue161
  t119 := Tryz.underlying333
  a119 := Tryz.isAgg333
  z119 := Tryz.sizeOf333
  t138 := Tryz.underlying335
  a138 := Tryz.isAgg335
  z138 := Tryz.sizeOf335
  v138 := Tryz.zeroValue335
  t139 := Tryz.underlying336
  a139 := Tryz.isAgg336
  z139 := Tryz.sizeOf336
  v139 := Tryz.zeroValue336
  g3 := by kernel_rfl
  g4 := by kernel_rfl }
open Go.RowKit Go.Lib in
theorem Tryz.utf8_decodeRuneInStringSlow (s : ByteArray) (w : World) (hT : Lib.Utf8Tabs 26 27 w) :
    Calls Tryz.prog 251 #[.string s] w fun e w' => e = .returned (.tuple #[.int .i32 (Lib.decodeGo s).1, .int .i64 (Lib.decodeGo s).2]) ∧ Below w.heap.size w w' := Any.utf8_decodeRuneInStringSlow Tryz.lays260 s w hT
open Go.RowKit Go.Lib in
/-- **unicode/utf8.DecodeRuneInString AT EVERY STRING.** (LAID: no walk: one application.) -/
theorem Tryz.utf8_DecodeRuneInString (s : ByteArray) (w : World) (hT : Lib.Utf8Tabs 26 27 w) :
    Calls Tryz.prog 248 #[.string s] w fun e w' => e = .returned (.tuple #[.int .i32 (Lib.decodeGo s).1, .int .i64 (Lib.decodeGo s).2]) ∧ Below w.heap.size w w' := Any.utf8_DecodeRuneInString Tryz.lays197 s w hT
def Tryz.lays271_ren : Go.Shelf.Ren := ⟨fun | 271 => 250 | 120 => 252 | 197 => 248 | 260 => 251 | n => n, fun | 9 => 9 | 21 => 21 | 3 => 3 | 4 => 4 | 5 => 5 | 105 => 331 | 119 => 333 | 0 => 0 | 46 => 161 | 139 => 336 | 138 => 335 | n => n, fun | 3 => 26 | 4 => 27 | n => n⟩
theorem Tryz.lays271 : Go.Proofs.Lays.n271 Tryz.prog Tryz.lays271_ren := {
  mixed := by kernel_rfl
  f120 := Tryz.func252.trans (congrArg some (by kernel_rfl))
  f197 := Tryz.func248.trans (congrArg some (by kernel_rfl))
  f260 := Tryz.func251.trans (congrArg some (by kernel_rfl))
  f271 := Tryz.func250.trans (congrArg some (by kernel_rfl))
  t0 := Tryz.underlying0
  a0 := Tryz.isAgg0
  z0 := Tryz.sizeOf0
  v0 := Tryz.zeroValue0
  t3 := Tryz.underlying3
  a3 := Tryz.isAgg3
  z3 := Tryz.sizeOf3
  v3 := Tryz.zeroValue3
  t4 := Tryz.underlying4
  a4 := Tryz.isAgg4
  z4 := Tryz.sizeOf4
  v4 := Tryz.zeroValue4
  t5 := Tryz.underlying5
  a5 := Tryz.isAgg5
  z5 := Tryz.sizeOf5
  v5 := Tryz.zeroValue5
  t9 := Tryz.underlying9
  a9 := Tryz.isAgg9
  z9 := Tryz.sizeOf9
  v9 := Tryz.zeroValue9
  t21 := Tryz.underlying21
  a21 := Tryz.isAgg21
  z21 := Tryz.sizeOf21
  v21 := Tryz.zeroValue21
  t46 := Tryz.underlying161
  a46 := Tryz.isAgg161
  z46 := Tryz.sizeOf161
  v46 := Tryz.zeroValue161
  t105 := Tryz.underlying331
  a105 := Tryz.isAgg331
  z105 := Tryz.sizeOf331
  v105 := Tryz.zeroValue331
  t119 := Tryz.underlying333
  a119 := Tryz.isAgg333
  z119 := Tryz.sizeOf333
  t138 := Tryz.underlying335
  a138 := Tryz.isAgg335
  z138 := Tryz.sizeOf335
  v138 := Tryz.zeroValue335
  t139 := Tryz.underlying336
  a139 := Tryz.isAgg336
  z139 := Tryz.sizeOf336
  v139 := Tryz.zeroValue336
  g3 := by kernel_rfl
  g4 := by kernel_rfl }
open Go.RowKit Go.Lib in
/-- **unicode/utf8.DecodeLastRuneInString AT EVERY STRING.** (LAID: no walk: one application.) -/
theorem Tryz.utf8_DecodeLastRuneInString (s : ByteArray) (w : World) (hs : s.size ≤ 9223372036854775807) (hT : Lib.Utf8Tabs 26 27 w) :
    Calls Tryz.prog 250 #[.string s] w fun e w' => e = .returned (.tuple #[.int .i32 (Lib.decodeLastL s.data.toList).1, .int .i64 (Lib.decodeLastL s.data.toList).2]) ∧ Below w.heap.size w w' := Any.utf8_DecodeLastRuneInString Tryz.lays271 s w hs hT
open Go.RowKit Go.Lib in
theorem Tryz.strings_indexFunc_grows (g : Nat) (lb : Array Value) (eg : ∀ args w, (callFunc g args).run Tryz.prog w = .ok (.enter g args) w) (p : Nat → Bool) (truth : Bool) (s : ByteArray) (w : World) (hp : PredGrows Tryz.prog g lb p w) :
    Calls Tryz.prog 137 #[.string s, .func (.func g) #[] lb, .bool truth] w fun e w' => e = .returned (.int .i64 (Lib.idxFunc p truth s)) ∧ Below w.heap.size w w' := Any.strings_indexFunc_grows Tryz.lays315 g lb eg p truth s w hp
open Go.RowKit Go.Lib in
theorem Tryz.strings_lastIndexFunc_grows (g : Nat) (lb : Array Value) (eg : ∀ args w, (callFunc g args).run Tryz.prog w = .ok (.enter g args) w) (p : Nat → Bool) (truth : Bool) (s : ByteArray) (w : World) (hs : s.size ≤ 9223372036854775807) (hT : Lib.Utf8Tabs 26 27 w) (hp : PredGrows Tryz.prog g lb p w) :
    Calls Tryz.prog 247 #[.string s, .func (.func g) #[] lb, .bool truth] w fun e w' => e = .returned (.int .i64 (Lib.lastIdxFunc p truth s)) ∧ Below w.heap.size w w' := Any.strings_lastIndexFunc_grows Tryz.lays273 g lb eg p truth s w hs hT hp
open Go.RowKit Go.Lib in
theorem Tryz.strings_TrimLeftFunc_grows (g : Nat) (lb : Array Value) (eg : ∀ args w, (callFunc g args).run Tryz.prog w = .ok (.enter g args) w) (p : Nat → Bool) (s : ByteArray) (w : World) (hp : PredGrows Tryz.prog g lb p w) :
    Calls Tryz.prog 112 #[.string s, .func (.func g) #[] lb] w fun e w' => e = .returned (.string (Lib.trimLeftF p s)) ∧ Below w.heap.size w w' := Any.strings_TrimLeftFunc_grows Tryz.lays272 g lb eg p s w hp
open Go.RowKit Go.Lib in
theorem Tryz.strings_TrimRightFunc_grows (g : Nat) (lb : Array Value) (eg : ∀ args w, (callFunc g args).run Tryz.prog w = .ok (.enter g args) w) (p : Nat → Bool) (s : ByteArray) (w : World) (hs : s.size ≤ 9223372036854775807) (hT : Lib.Utf8Tabs 26 27 w) (hp : PredGrows Tryz.prog g lb p w) :
    Calls Tryz.prog 234 #[.string s, .func (.func g) #[] lb] w fun e w' => e = .returned (.string (Lib.trimRightF p s)) ∧ Below w.heap.size w w' := Any.strings_TrimRightFunc_grows Tryz.lays238 g lb eg p s w hs hT hp
def Tryz.laysPa41_ren : Go.Shelf.Ren := ⟨fun | 41 => 288 | n => n, fun | 3 => 3 | n => n, fun | n => n⟩
theorem Tryz.laysPa41 : Go.Proofs.Lays.p41 Tryz.prog Tryz.laysPa41_ren := {
  mixed := by kernel_rfl
  f41 := Tryz.func288.trans (congrArg some (by kernel_rfl))
  t3 := Tryz.underlying3
  a3 := Tryz.isAgg3
  z3 := Tryz.sizeOf3
  v3 := Tryz.zeroValue3 }
open Go.RowKit Go.Lib in
/-- encoding/hex.EncodedLen: "EncodedLen returns the length of an encoding of n source bytes. Specifically, it returns n * 2.": for 0 ≤ n < 2^62 (beyond it int's product wraps). (LAID: no walk: one application.) -/
theorem Tryz.hex_EncodedLen (n : Int) (h0 : 0 ≤ n) (h1 : n < 4611686018427387904) (w : World) :
    Calls Tryz.prog 288 #[.int .i64 n] w fun e w' => e = .returned (.int .i64 (n * 2)) ∧ w' = w := Any.hex_EncodedLen Tryz.laysPa41 n h0 h1 w
def Tryz.laysPa42_ren : Go.Shelf.Ren := ⟨fun | 42 => 167 | n => n, fun | 3 => 3 | n => n, fun | n => n⟩
theorem Tryz.laysPa42 : Go.Proofs.Lays.p42 Tryz.prog Tryz.laysPa42_ren := {
  mixed := by kernel_rfl
  f42 := Tryz.func167.trans (congrArg some (by kernel_rfl))
  t3 := Tryz.underlying3
  a3 := Tryz.isAgg3
  z3 := Tryz.sizeOf3
  v3 := Tryz.zeroValue3 }
open Go.RowKit Go.Lib in
/-- encoding/hex.DecodedLen: "DecodedLen returns the length of a decoding of x source bytes. Specifically, it returns x / 2.": for 0 ≤ x. (LAID: no walk: one application.) -/
theorem Tryz.hex_DecodedLen (x : Int) (h0 : 0 ≤ x) (h1 : x < 9223372036854775808) (w : World) :
    Calls Tryz.prog 167 #[.int .i64 x] w fun e w' => e = .returned (.int .i64 (x / 2)) ∧ w' = w := Any.hex_DecodedLen Tryz.laysPa42 x h0 h1 w
def Tryz.laysPa40_ren : Go.Shelf.Ren := ⟨fun | 40 => 289 | n => n, fun | 30 => 40 | 3 => 3 | 0 => 0 | 5 => 5 | 46 => 161 | 9 => 9 | n => n, fun | n => n⟩
theorem Tryz.laysPa40 : Go.Proofs.Lays.p40 Tryz.prog Tryz.laysPa40_ren := {
  mixed := by kernel_rfl
  f40 := Tryz.func289.trans (congrArg some (by kernel_rfl))
  t0 := Tryz.underlying0
  a0 := Tryz.isAgg0
  z0 := Tryz.sizeOf0
  v0 := Tryz.zeroValue0
  t3 := Tryz.underlying3
  a3 := Tryz.isAgg3
  z3 := Tryz.sizeOf3
  v3 := Tryz.zeroValue3
  t5 := Tryz.underlying5
  a5 := Tryz.isAgg5
  z5 := Tryz.sizeOf5
  v5 := Tryz.zeroValue5
  t9 := Tryz.underlying9
  a9 := Tryz.isAgg9
  z9 := Tryz.sizeOf9
  v9 := Tryz.zeroValue9
  t30 := Tryz.underlying40
  a30 := Tryz.isAgg40
  z30 := Tryz.sizeOf40
  v30 := Tryz.zeroValue40
  t46 := Tryz.underlying161
  a46 := Tryz.isAgg161
  z46 := Tryz.sizeOf161
  v46 := Tryz.zeroValue161 }
open Go.RowKit Go.Lib in
/-- encoding/hex.Encode: "Encode encodes src into EncodedLen(len(src)) bytes of dst. As a convenience, it returns the number of bytes written to dst, but this value is always EncodedLen(len(src)). Encode implements hexadecimal encoding.": dst: nd places from place od on of a row (block bd: N cells of uint8, none frozen, holding 'f'), with room for the digits; src: n cells of ANOTHER block, holding the numbers xs, each a byte's. IT RETURNS n * 2; THE ROW THEN HOLDS 'Hx.row f od (the bytes of src) n': the 2 * n digits of 'Hx.encode' from place od on, else what it held; nothing else has turned ('grownBy'). (LAID: no walk: one application.) -/
theorem Tryz.hex_Encode (bd od nd cd N : Nat) (f : Nat → Value) (bs os n cs : Nat) (xs : List Int) (w : World) (hx : xs.length = n) (hr : ∀ i, i < n → 0 ≤ xs.getD i 0 ∧ xs.getD i 0 < 256) (hsrc : ∀ i, i < n → w.cell? ⟨bs, os + i, none⟩ = some (.int .u8 (xs.getD i 0))) (hrow : w.rowIs bd 5 N f) (hfit : od + nd ≤ N) (hlen : 2 * n ≤ nd) (hne : bd ≠ bs) (hbig : n ≤ 4611686018427387903) :
    Calls Tryz.prog 289 #[.slice (some ⟨bd, od, none⟩) nd cd, .slice (some ⟨bs, os, none⟩) n cs] w fun e w' => e = .returned (.int .i64 ((n : Int) * 2)) ∧ w'.rowIs bd 5 N (Hx.row f od (Lib.bytesOf xs) n) ∧ w.grownBy w' (some bd) := Any.hex_Encode Tryz.laysPa40 bd od nd cd N f bs os n cs xs w hx hr hsrc hrow hfit hlen hne hbig
def Tryz.laysPah39_ren : Go.Shelf.Ren := ⟨fun | 39 => 281 | 41 => 288 | 40 => 289 | n => n, fun | 30 => 40 | 9 => 9 | 3 => 3 | 0 => 0 | 5 => 5 | 46 => 161 | n => n, fun | n => n⟩
theorem Tryz.laysPah39 : Go.Proofs.Lays.ph39 Tryz.prog Tryz.laysPah39_ren := {
  mixed := by kernel_rfl
  f39 := Tryz.func281.trans (congrArg some (by kernel_rfl))
  f40 := Tryz.func289.trans (congrArg some (by kernel_rfl))
  f41 := Tryz.func288.trans (congrArg some (by kernel_rfl))
  t0 := Tryz.underlying0
  a0 := Tryz.isAgg0
  z0 := Tryz.sizeOf0
  v0 := Tryz.zeroValue0
  t3 := Tryz.underlying3
  a3 := Tryz.isAgg3
  z3 := Tryz.sizeOf3
  v3 := Tryz.zeroValue3
  t5 := Tryz.underlying5
  a5 := Tryz.isAgg5
  z5 := Tryz.sizeOf5
  v5 := Tryz.zeroValue5
  t9 := Tryz.underlying9
  a9 := Tryz.isAgg9
  z9 := Tryz.sizeOf9
  v9 := Tryz.zeroValue9
  t30 := Tryz.underlying40
  a30 := Tryz.isAgg40
  z30 := Tryz.sizeOf40
  v30 := Tryz.zeroValue40
  t46 := Tryz.underlying161
  a46 := Tryz.isAgg161
  z46 := Tryz.sizeOf161
  v46 := Tryz.zeroValue161
  info5 := by kernel_rfl }
open Go.RowKit Go.Lib in
/-- encoding/hex.EncodeToString: "EncodeToString returns the hexadecimal encoding of src.": src: n cells holding the numbers xs, each a byte's. IT RETURNS THE STRING OF 'Hx.encode (the bytes of src)'; what was there before the call is as it was ('Below': the call lays one new block). IT ASKS 2 * n ≤ 2^48 (makeslice's own limit). (LAID: no walk: one application.) -/
theorem Tryz.hex_EncodeToString (bs os n cs : Nat) (xs : List Int) (w : World) (hx : xs.length = n) (hr : ∀ i, i < n → 0 ≤ xs.getD i 0 ∧ xs.getD i 0 < 256) (hsrc : ∀ i, i < n → w.cell? ⟨bs, os + i, none⟩ = some (.int .u8 (xs.getD i 0))) (hb : bs < w.heap.size) (hbig : 2 * n ≤ 281474976710656) :
    Calls Tryz.prog 281 #[.slice (some ⟨bs, os, none⟩) n cs] w fun e w' => e = .returned (.string ⟨(Hx.encode (Lib.bytesOf xs)).toArray⟩) ∧ Below w.heap.size w w' := Any.hex_EncodeToString Tryz.laysPah39 bs os n cs xs w hx hr hsrc hb hbig
open Go.RowKit Go.Lib in
/-- encoding/hex.Encode AT A src THAT IS nil: nothing is written; it returns 0. (dst: whatever value.) (LAID: no walk: one application.) -/
theorem Tryz.hex_Encode_nil (dst : Value) (w : World) :
    Calls Tryz.prog 289 #[dst, .slice none 0 0] w fun e w' => e = .returned (.int .i64 0) ∧ w' = w := Any.hex_Encode_nil Tryz.laysPa40 dst w
open Go.RowKit Go.Lib in
/-- encoding/hex.EncodeToString AT A src THAT IS nil: IT RETURNS ""; what was there before the call is as it was. (LAID: no walk: one application.) -/
theorem Tryz.hex_EncodeToString_nil (w : World) :
    Calls Tryz.prog 281 #[.slice none 0 0] w fun e w' => e = .returned (.string ⟨#[]⟩) ∧ Below w.heap.size w w' := Any.hex_EncodeToString_nil Tryz.laysPah39 w
def Tryz.laysPa44_ren : Go.Shelf.Ren := ⟨fun | 44 => 168 | n => n, fun | 30 => 40 | 3 => 3 | 35 => 71 | 4 => 4 | 0 => 0 | 5 => 5 | 9 => 9 | 47 => 302 | 46 => 161 | 45 => 67 | n => n, fun | 0 => 18 | n => n⟩
theorem Tryz.laysPa44 : Go.Proofs.Lays.p44 Tryz.prog Tryz.laysPa44_ren := {
  mixed := by kernel_rfl
  f44 := Tryz.func168.trans (congrArg some (by kernel_rfl))
  t0 := Tryz.underlying0
  a0 := Tryz.isAgg0
  z0 := Tryz.sizeOf0
  v0 := Tryz.zeroValue0
  t3 := Tryz.underlying3
  a3 := Tryz.isAgg3
  z3 := Tryz.sizeOf3
  v3 := Tryz.zeroValue3
  t4 := Tryz.underlying4
  a4 := Tryz.isAgg4
  z4 := Tryz.sizeOf4
  v4 := Tryz.zeroValue4
  t5 := Tryz.underlying5
  a5 := Tryz.isAgg5
  z5 := Tryz.sizeOf5
  v5 := Tryz.zeroValue5
  t9 := Tryz.underlying9
  a9 := Tryz.isAgg9
  z9 := Tryz.sizeOf9
  v9 := Tryz.zeroValue9
  t30 := Tryz.underlying40
  a30 := Tryz.isAgg40
  z30 := Tryz.sizeOf40
  v30 := Tryz.zeroValue40
  t35 := Tryz.underlying71
  a35 := Tryz.isAgg71
  z35 := Tryz.sizeOf71
  v35 := Tryz.zeroValue71
  t45 := Tryz.underlying67
  a45 := Tryz.isAgg67
  z45 := Tryz.sizeOf67
  v45 := Tryz.zeroValue67
  t46 := Tryz.underlying161
  a46 := Tryz.isAgg161
  z46 := Tryz.sizeOf161
  v46 := Tryz.zeroValue161
  t47 := Tryz.underlying302
  a47 := Tryz.isAgg302
  z47 := Tryz.sizeOf302
  v47 := Tryz.zeroValue302
  g0 := by kernel_rfl }
open Go.RowKit Go.Lib in
/-- encoding/hex.Decode, FOR EVERY src THAT IS NOT nil: "Decode decodes src into DecodedLen(len(src)) bytes, returning the actual number of bytes written to dst. Decode expects that src contains only hexadecimal characters and that src has even length. If the input is malformed, Decode returns the number of bytes decoded before the error.": dst: nd places from place od on of a row (block bd), with room for len(src) / 2 bytes; src: n cells of ANOTHER block, holding the numbers xs, each a byte's; 'ev': what the variable encoding/hex.ErrLength holds. IT RETURNS (how many bytes 'Hx.decode' gives, the error by how it ends: nil ¦ InvalidByteError(c) ¦ ErrLength's content); THE ROW THEN HOLDS those bytes from place od on ('Hx.rowP'); nothing else has turned. (LAID: no walk: one application.) -/
theorem Tryz.hex_Decode (bd od nd cd N : Nat) (f : Nat → Value) (bs os n cs : Nat) (xs : List Int) (w : World) (ev : Value) (hx : xs.length = n) (hr : ∀ i, i < n → 0 ≤ xs.getD i 0 ∧ xs.getD i 0 < 256) (hsrc : ∀ i, i < n → w.cell? ⟨bs, os + i, none⟩ = some (.int .u8 (xs.getD i 0))) (hrow : w.rowIs bd 5 N f) (hfit : od + nd ≤ N) (hlen : n / 2 ≤ nd) (hne : bd ≠ bs) (hbig : n ≤ 4611686018427387903) (hE : w.cell? ⟨18, 0, none⟩ = some ev) (hgb : 18 ≠ bd) :
    Calls Tryz.prog 168 #[.slice (some ⟨bd, od, none⟩) nd cd, .slice (some ⟨bs, os, none⟩) n cs] w fun e w' =>
      e = .returned (.tuple #[.int .i64 ((Hx.decode (Lib.bytesOf xs)).1.length : Int), Hx.errVal 302 ev (Hx.decode (Lib.bytesOf xs)).2]) ∧ w'.rowIs bd 5 N (Hx.rowP f od (Hx.decode (Lib.bytesOf xs)).1) ∧ w.grownBy w' (some bd) := Any.hex_Decode Tryz.laysPa44 bd od nd cd N f bs os n cs xs w ev hx hr hsrc hrow hfit hlen hne hbig hE hgb
def Tryz.laysPah43_ren : Go.Shelf.Ren := ⟨fun | 43 => 125 | 42 => 167 | 44 => 168 | n => n, fun | 9 => 9 | 30 => 40 | 35 => 71 | 3 => 3 | 38 => 83 | 4 => 4 | 0 => 0 | 5 => 5 | 47 => 302 | 46 => 161 | 45 => 67 | n => n, fun | 0 => 18 | n => n⟩
theorem Tryz.laysPah43 : Go.Proofs.Lays.ph43 Tryz.prog Tryz.laysPah43_ren := {
  mixed := by kernel_rfl
  f42 := Tryz.func167.trans (congrArg some (by kernel_rfl))
  f43 := Tryz.func125.trans (congrArg some (by kernel_rfl))
  f44 := Tryz.func168.trans (congrArg some (by kernel_rfl))
  t0 := Tryz.underlying0
  a0 := Tryz.isAgg0
  z0 := Tryz.sizeOf0
  v0 := Tryz.zeroValue0
  t3 := Tryz.underlying3
  a3 := Tryz.isAgg3
  z3 := Tryz.sizeOf3
  v3 := Tryz.zeroValue3
  t4 := Tryz.underlying4
  a4 := Tryz.isAgg4
  z4 := Tryz.sizeOf4
  v4 := Tryz.zeroValue4
  t5 := Tryz.underlying5
  a5 := Tryz.isAgg5
  z5 := Tryz.sizeOf5
  v5 := Tryz.zeroValue5
  t9 := Tryz.underlying9
  a9 := Tryz.isAgg9
  z9 := Tryz.sizeOf9
  v9 := Tryz.zeroValue9
  t30 := Tryz.underlying40
  a30 := Tryz.isAgg40
  z30 := Tryz.sizeOf40
  v30 := Tryz.zeroValue40
  t35 := Tryz.underlying71
  a35 := Tryz.isAgg71
  z35 := Tryz.sizeOf71
  v35 := Tryz.zeroValue71
  t38 := Tryz.underlying83
  a38 := Tryz.isAgg83
  z38 := Tryz.sizeOf83
  v38 := Tryz.zeroValue83
  t45 := Tryz.underlying67
  a45 := Tryz.isAgg67
  z45 := Tryz.sizeOf67
  v45 := Tryz.zeroValue67
  t46 := Tryz.underlying161
  a46 := Tryz.isAgg161
  z46 := Tryz.sizeOf161
  v46 := Tryz.zeroValue161
  t47 := Tryz.underlying302
  a47 := Tryz.isAgg302
  z47 := Tryz.sizeOf302
  v47 := Tryz.zeroValue302
  g0 := by kernel_rfl
  info5 := by kernel_rfl }
open Go.RowKit Go.Lib in
/-- encoding/hex.DecodeString, FOR EVERY s: "DecodeString returns the bytes represented by the hexadecimal string s. DecodeString expects that src contains only hexadecimal characters and that src has even length. If the input is malformed, DecodeString returns the bytes decoded before the error.": 'ev': what the variable encoding/hex.ErrLength holds. IT RETURNS (a slice at the head of A NEW BLOCK, the first that the call lays, of as many bytes as 'Hx.decode s' gives, capacity len(s) / 2; the error by how the decoding ends: nil ¦ InvalidByteError(c) ¦ ErrLength's content); THAT BLOCK IS A ROW WHICH HOLDS THOSE BYTES ('Hx.rowP'); what was there before the call is as it was ('Below'). IT ASKS len(s) ≤ 2^48. (LAID: no walk: one application.) -/
theorem Tryz.hex_DecodeString (s : ByteArray) (w : World) (ev : Value) (hE : w.cell? ⟨18, 0, none⟩ = some ev) (hbig : s.size ≤ 281474976710656) :
    Calls Tryz.prog 125 #[.string s] w fun e w' =>
      e = .returned (.tuple #[.slice (some ⟨w.heap.size, 0, none⟩) (Hx.decode s.data.toList).1.length (s.size / 2), Hx.errVal 302 ev (Hx.decode s.data.toList).2]) ∧
      w'.rowIs w.heap.size 5 (s.size / 2) (Hx.rowP (fun _ => .int .u8 0) 0 (Hx.decode s.data.toList).1) ∧ Below w.heap.size w w' := Any.hex_DecodeString Tryz.laysPah43 s w ev hE hbig
open Go.RowKit Go.Lib in
/-- encoding/hex.DecodeString: the result slice OWNS the bytes decoded. (LAID: no walk: one application.) -/
theorem Tryz.hex_DecodeString_owns (s : ByteArray) (w : World) (ev : Value) (hE : w.cell? ⟨18, 0, none⟩ = some ev) (hbig : s.size ≤ 281474976710656) :
    Calls Tryz.prog 125 #[.string s] w fun e w' => ∃ v, e = .returned (.tuple #[v, Hx.errVal 302 ev (Hx.decode s.data.toList).2]) ∧
      w'.ownsRow w.heap.size 5 1 v (Hx.decode s.data.toList).1.length ((Hx.decode s.data.toList).1.map fun b => Value.int .u8 (b.toNat : Int)) ∧ Below w.heap.size w w' := Any.hex_DecodeString_owns Tryz.laysPah43 s w ev hE hbig
open Go.RowKit Go.Lib in
/-- encoding/hex.Decode AT A src THAT IS nil: nothing is written; it returns (0, nil). (dst: whatever value.) (LAID: no walk: one application.) -/
theorem Tryz.hex_Decode_nil (dst : Value) (w : World) :
    Calls Tryz.prog 168 #[dst, .slice none 0 0] w fun e w' => e = .returned (.tuple #[.int .i64 0, .nilIface]) ∧ w' = w := Any.hex_Decode_nil Tryz.laysPa44 dst w
open Go.RowKit Go.Lib in
/-- encoding/hex.EncodeToString, the slice's content held AS BYTES. (LAID: no walk: one application.) -/
theorem Tryz.hex_EncodeToString_bytes (bs os cs : Nat) (l : List UInt8) (w : World) (hsrc : ∀ i (h : i < l.length), w.cell? ⟨bs, os + i, none⟩ = some (.int .u8 ((l[i]'h).toNat : Int))) (hb : bs < w.heap.size) (hbig : 2 * l.length ≤ 281474976710656) :
    Calls Tryz.prog 281 #[.slice (some ⟨bs, os, none⟩) l.length cs] w fun e w' => e = .returned (.string ⟨(Hx.encode l).toArray⟩) ∧ Below w.heap.size w w' := Any.hex_EncodeToString_bytes Tryz.laysPah39 bs os cs l w hsrc hb hbig
end Go.Proofs
