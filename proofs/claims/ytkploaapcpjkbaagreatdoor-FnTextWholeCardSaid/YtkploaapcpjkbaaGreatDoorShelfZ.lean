/-
  DERIVED: THE SHELF's CONTRACTS AT THIS DUMP, IN PLAIN WORDS (tools/lay-plain.mjs out of 'TryzShelf.lean', which tools/lay-shelf.mjs wrote): THE SAME DECLARATIONS UNDER THE SAME NAMES: 'import', 'namespace', 'open', 'def', 'theorem' AND NOTHING ELSE: no command of the shelf's: FOR A HAND-IN. Each laying: the table of numbers ('.._ren') and one theorem, a field a fact of the dump's own or the kernel's comparison; each contract: ONE APPLICATION.
-/
import Derived.Shelf.Strings.Builder1
import Derived.Shelf.Strings.Builder2
import Derived.Shelf.Strings.OnBuilder
import Derived.Shelf.Small.Utf8
import Derived.Shelf.Strings.BuilderF
import Derived.Shelf.Strings.BuilderK
import Derived.Shelf.Strings.Builder2Cap
import Derived.Shelf.Strconv.Itoa0
import Derived.Shelf.Strconv.Itoa1
import Derived.Shelf.LaysM
import Derived.Shelf.Strconv.Itoa2
import Derived.Shelf.Strconv.Itoa3
import Derived.Shelf.Strings.Prefix
import Derived.Shelf.Unicode.Latin
import Derived.Shelf.Unicode.Decode
import Derived.Shelf.Bits.Mul64
import Derived.Shelf.Strings.Repeat
import Derived.Shelf.Unicode.DecodeSlow
import Derived.Shelf.Unicode.DecodeAny
import Derived.Shelf.Unicode.CaseLookup
import Derived.Shelf.Unicode.CaseConvert
import Derived.Shelf.Unicode.CaseTo
import Derived.Shelf.Unicode.CaseLaid
import Derived.Test.YtkploaapcpjkbaaGreatDoorProg
namespace Go.Proofs
open Go.Shelf
set_option linter.unusedVariables false
set_option linter.unusedSimpArgs false
def Tryz.lays170_ren : Go.Shelf.Ren := ⟨fun | 170 => 66 | n => n, fun | 70 => 74 | 3 => 3 | 0 => 0 | 72 => 76 | 37 => 60 | 5 => 5 | n => n, fun | n => n⟩
theorem Tryz.lays170 : Go.Proofs.Lays.n170 Tryz.prog Tryz.lays170_ren := {
  mixed := by kernel_rfl
  f170 := Tryz.func66.trans (congrArg some (by kernel_rfl))
  t0 := Tryz.underlying0
  a0 := Tryz.isAgg0
  z0 := Tryz.sizeOf0
  v0 := Tryz.zeroValue0
  t3 := Tryz.underlying3
  a3 := Tryz.isAgg3
  z3 := Tryz.sizeOf3
  v3 := Tryz.zeroValue3
  t37 := Tryz.underlying60
  a37 := Tryz.isAgg60
  z37 := Tryz.sizeOf60
  v37 := Tryz.zeroValue60
  t70 := Tryz.underlying74
  a70 := Tryz.isAgg74
  z70 := Tryz.sizeOf74
  v70 := Tryz.zeroValue74
  t72 := Tryz.underlying76
  a72 := Tryz.isAgg76
  z72 := Tryz.sizeOf76
  v72 := Tryz.zeroValue76 }
open Go.RowKit in
/-- (*strings.Builder).Len: "Len returns the number of accumulated bytes; b.Len() == len(b.String()).": the world is as it was. (LAID: no walk: one application.) -/
theorem Tryz.Builder_Len (B b : Nat) (bs : List Value) (w : World) (h : Lib.IsBuilder 76 5 B b bs w) :
    Calls Tryz.prog 66 #[.pointer (some ⟨b, 0, none⟩)] w fun e w' => e = .returned (.int .i64 bs.length) ∧ w' = w := Any.Builder_Len Tryz.lays170 B b bs w h
def Tryz.lays169_ren : Go.Shelf.Ren := ⟨fun | 169 => 46 | n => n, fun | 70 => 74 | 9 => 9 | 0 => 0 | 72 => 76 | 37 => 60 | 127 => 97 | 3 => 3 | 5 => 5 | n => n, fun | n => n⟩
theorem Tryz.lays169 : Go.Proofs.Lays.n169 Tryz.prog Tryz.lays169_ren := {
  mixed := by kernel_rfl
  f169 := Tryz.func46.trans (congrArg some (by kernel_rfl))
  t0 := Tryz.underlying0
  a0 := Tryz.isAgg0
  z0 := Tryz.sizeOf0
  v0 := Tryz.zeroValue0
  t3 := Tryz.underlying3
  a3 := Tryz.isAgg3
  z3 := Tryz.sizeOf3
  v3 := Tryz.zeroValue3
  t9 := Tryz.underlying9
  a9 := Tryz.isAgg9
  z9 := Tryz.sizeOf9
  v9 := Tryz.zeroValue9
  t37 := Tryz.underlying60
  a37 := Tryz.isAgg60
  z37 := Tryz.sizeOf60
  v37 := Tryz.zeroValue60
  t70 := Tryz.underlying74
  a70 := Tryz.isAgg74
  z70 := Tryz.sizeOf74
  v70 := Tryz.zeroValue74
  t72 := Tryz.underlying76
  a72 := Tryz.isAgg76
  z72 := Tryz.sizeOf76
  v72 := Tryz.zeroValue76
  t127 := Tryz.underlying97
  a127 := Tryz.isAgg97
  z127 := Tryz.sizeOf97
  v127 := Tryz.zeroValue97 }
theorem Tryz.Builder_Extra_169 : Builder.Extra Tryz.prog Tryz.lays169_ren := {
  sizeBuilder := by kernel_rfl
  liesBuilder := by kernel_rfl
  t5 := Tryz.underlying5
  a5 := Tryz.isAgg5
  z5 := Tryz.sizeOf5
  v5 := Tryz.zeroValue5
  infoByte := by kernel_rfl
  cellsByte := by kernel_rfl
  sizeByte := by kernel_rfl
  neB5 := by decide }
open Go.RowKit in
/-- (*strings.Builder).String: "String returns the accumulated string.": OF A BUILDER THAT HOLDS AT LEAST ONE BYTE. ✋ THE MODEL FREEZES THOSE BYTES IN THE BUFFER (unsafe.String): a later write INTO them ends the model's run without an answer; a later append BEHIND them goes on. The statement's order of evaluation is drawn: one draw. (LAID: no walk: one application.) -/
theorem Tryz.Builder_String (B b : Nat) (l : List UInt8) (w : World) (h : Lib.IsBuilder 76 5 B b (Lib.byteCells l) w) (h0 : l ≠ []) :
    Calls Tryz.prog 46 #[.pointer (some ⟨b, 0, none⟩)] w fun e w' => e = .returned (.string ⟨l.toArray⟩) ∧ Below B w w' := Any.Builder_String Tryz.lays169 Tryz.Builder_Extra_169 B b l w h h0
open Go.RowKit in
/-- (*strings.Builder).String OF A BUILDER THAT HOLDS NO BYTE: the empty string. (Its buffer is nil, or a row of which it has taken nothing yet; where that row has NO capacity the model lays one new block for unsafe.SliceData's 'some address'.) One draw. (LAID: no walk: one application.) -/
theorem Tryz.Builder_String_empty (B b : Nat) (w : World) (h : Lib.IsBuilder 76 5 B b [] w) (hBw : B ≤ w.heap.size) :
    Calls Tryz.prog 46 #[.pointer (some ⟨b, 0, none⟩)] w fun e w' => e = .returned (.string ⟨#[]⟩) ∧ Below B w w' := Any.Builder_String_empty Tryz.lays169 Tryz.Builder_Extra_169 B b w h hBw
open Go.RowKit in
/-- (*strings.Builder).String: "String returns the accumulated string.": WHATEVER THE BUILDER HOLDS. (LAID: no walk: one application.) -/
theorem Tryz.Builder_String_any (B b : Nat) (l : List UInt8) (w : World) (h : Lib.IsBuilder 76 5 B b (Lib.byteCells l) w) (hBw : B ≤ w.heap.size) :
    Calls Tryz.prog 46 #[.pointer (some ⟨b, 0, none⟩)] w fun e w' => e = .returned (.string ⟨l.toArray⟩) ∧ Below B w w' := Any.Builder_String_any Tryz.lays169 Tryz.Builder_Extra_169 B b l w h hBw
def Tryz.lays241_ren : Go.Shelf.Ren := ⟨fun | 241 => 71 | 277 => 87 | n => n, fun | 70 => 74 | 3 => 3 | 0 => 0 | 72 => 76 | 37 => 60 | 5 => 5 | n => n, fun | n => n⟩
theorem Tryz.lays241 : Go.Proofs.Lays.n241 Tryz.prog Tryz.lays241_ren := {
  mixed := by kernel_rfl
  f241 := Tryz.func71.trans (congrArg some (by kernel_rfl))
  f277 := Tryz.func87.trans (congrArg some (by kernel_rfl))
  t0 := Tryz.underlying0
  a0 := Tryz.isAgg0
  z0 := Tryz.sizeOf0
  v0 := Tryz.zeroValue0
  t3 := Tryz.underlying3
  a3 := Tryz.isAgg3
  z3 := Tryz.sizeOf3
  v3 := Tryz.zeroValue3
  t37 := Tryz.underlying60
  a37 := Tryz.isAgg60
  z37 := Tryz.sizeOf60
  v37 := Tryz.zeroValue60
  t70 := Tryz.underlying74
  a70 := Tryz.isAgg74
  z70 := Tryz.sizeOf74
  v70 := Tryz.zeroValue74
  t72 := Tryz.underlying76
  a72 := Tryz.isAgg76
  z72 := Tryz.sizeOf76
  v72 := Tryz.zeroValue76 }
theorem Tryz.Builder_Extra_241 : Builder.Extra Tryz.prog Tryz.lays241_ren := {
  sizeBuilder := by kernel_rfl
  liesBuilder := by kernel_rfl
  t5 := Tryz.underlying5
  a5 := Tryz.isAgg5
  z5 := Tryz.sizeOf5
  v5 := Tryz.zeroValue5
  infoByte := by kernel_rfl
  cellsByte := by kernel_rfl
  sizeByte := by kernel_rfl
  neB5 := by decide }
open Go.RowKit in
/-- (*strings.Builder).grow (no doc but "grow copies the buffer to a new, larger buffer so that there are at least n bytes of capacity beyond len(b.buf)."): AT A BUILDER WITHOUT A BUFFER: a new row of whatever bytes for its buffer, none of them its own yet. Three draws. (LAID: no walk: one application.) -/
theorem Tryz.Builder_grow_fresh (B b n : Nat) (w : World) (hB : B ≤ b) (hbk : w.heap[b]? = some (.cells #[.pointer (some ⟨b, 0, none⟩), .slice none 0 0] 76 (0, 0))) (hBw : B ≤ w.heap.size) (hn : n ≤ 281474976710656) :
    Calls Tryz.prog 71 #[.pointer (some ⟨b, 0, none⟩), .int .i64 n] w fun e w' => e = .returned (.tuple #[]) ∧ (Lib.BuilderAt 76 5 B b (.pointer (some ⟨b, 0, none⟩)) [] w' ∧ Below B w w') := Any.Builder_grow_fresh Tryz.lays241 Tryz.Builder_Extra_241 B b n w hB hbk hBw hn
def Tryz.lays165_ren : Go.Shelf.Ren := ⟨fun | 165 => 44 | 240 => 70 | 241 => 71 | 276 => 86 | 277 => 87 | n => n, fun | 70 => 74 | 3 => 3 | 0 => 0 | 4 => 4 | 9 => 9 | 20 => 20 | 72 => 76 | 37 => 60 | 164 => 115 | 5 => 5 | n => n, fun | n => n⟩
theorem Tryz.lays165 : Go.Proofs.Lays.n165 Tryz.prog Tryz.lays165_ren := {
  mixed := by kernel_rfl
  f165 := Tryz.func44.trans (congrArg some (by kernel_rfl))
  f240 := Tryz.func70.trans (congrArg some (by kernel_rfl))
  f241 := Tryz.func71.trans (congrArg some (by kernel_rfl))
  f276 := Tryz.func86.trans (congrArg some (by kernel_rfl))
  f277 := Tryz.func87.trans (congrArg some (by kernel_rfl))
  t0 := Tryz.underlying0
  a0 := Tryz.isAgg0
  z0 := Tryz.sizeOf0
  v0 := Tryz.zeroValue0
  t3 := Tryz.underlying3
  a3 := Tryz.isAgg3
  z3 := Tryz.sizeOf3
  v3 := Tryz.zeroValue3
  t4 := Tryz.underlying4
  a4 := Tryz.isAgg4
  z4 := Tryz.sizeOf4
  v4 := Tryz.zeroValue4
  t9 := Tryz.underlying9
  a9 := Tryz.isAgg9
  z9 := Tryz.sizeOf9
  v9 := Tryz.zeroValue9
  t20 := Tryz.underlying20
  a20 := Tryz.isAgg20
  z20 := Tryz.sizeOf20
  v20 := Tryz.zeroValue20
  t37 := Tryz.underlying60
  a37 := Tryz.isAgg60
  z37 := Tryz.sizeOf60
  v37 := Tryz.zeroValue60
  t70 := Tryz.underlying74
  a70 := Tryz.isAgg74
  z70 := Tryz.sizeOf74
  v70 := Tryz.zeroValue74
  t72 := Tryz.underlying76
  a72 := Tryz.isAgg76
  z72 := Tryz.sizeOf76
  v72 := Tryz.zeroValue76
  t164 := Tryz.underlying115
  a164 := Tryz.isAgg115
  z164 := Tryz.sizeOf115
  v164 := Tryz.zeroValue115 }
theorem Tryz.Builder_Extra_165 : Builder.Extra Tryz.prog Tryz.lays165_ren := {
  sizeBuilder := by kernel_rfl
  liesBuilder := by kernel_rfl
  t5 := Tryz.underlying5
  a5 := Tryz.isAgg5
  z5 := Tryz.sizeOf5
  v5 := Tryz.zeroValue5
  infoByte := by kernel_rfl
  cellsByte := by kernel_rfl
  sizeByte := by kernel_rfl
  neB5 := by decide }
open Go.RowKit in
/-- (*strings.Builder).Grow AT A BUILDER THAT HAS NOT BEEN WRITTEN ('var b strings.Builder; b.Grow(n)'): "Grow grows b's capacity, if necessary, to guarantee space for another n bytes.": it holds no byte behind it as before it. (LAID: no walk: one application.) -/
theorem Tryz.Builder_Grow_fresh (B b n : Nat) (w : World) (hB : B ≤ b) (hbk : w.heap[b]? = some (.cells #[.pointer none, .slice none 0 0] 76 (0, 0))) (hBw : B ≤ w.heap.size) (hn : n ≤ 281474976710656) :
    Calls Tryz.prog 44 #[.pointer (some ⟨b, 0, none⟩), .int .i64 n] w fun e w' => e = .returned (.tuple #[]) ∧ (Lib.BuilderAt 76 5 B b (.pointer (some ⟨b, 0, none⟩)) [] w' ∧ Below B w w') := Any.Builder_Grow_fresh Tryz.lays165 Tryz.Builder_Extra_165 B b n w hB hbk hBw hn
def Tryz.lays158_ren : Go.Shelf.Ren := ⟨fun | 158 => 43 | 165 => 44 | 166 => 45 | 167 => 67 | 169 => 46 | 230 => 68 | 203 => 69 | 240 => 70 | 241 => 71 | 197 => 81 | 118 => 82 | 168 => 83 | 270 => 84 | 262 => 85 | 276 => 86 | 277 => 87 | 260 => 93 | 242 => 94 | 313 => 95 | 278 => 98 | 274 => 99 | 275 => 100 | n => n, fun | 9 => 9 | 4 => 4 | 3 => 3 | 5 => 5 | 72 => 76 | 0 => 0 | 76 => 78 | 75 => 40 | 107 => 96 | 70 => 74 | 20 => 20 | 37 => 60 | 127 => 97 | 21 => 21 | 105 => 110 | 164 => 115 | 162 => 128 | 203 => 126 | 119 => 130 | 46 => 47 | 139 => 133 | 138 => 132 | 51 => 88 | 160 => 134 | 208 => 142 | 206 => 140 | 80 => 38 | n => n, fun | 13 => 1 | 3 => 3 | 4 => 4 | n => n⟩
theorem Tryz.lays158 : Go.Proofs.Lays.n158 Tryz.prog Tryz.lays158_ren := {
  mixed := by kernel_rfl
  f118 := Tryz.func82.trans (congrArg some (by kernel_rfl))
  f158 := Tryz.func43.trans (congrArg some (by kernel_rfl))
  f165 := Tryz.func44.trans (congrArg some (by kernel_rfl))
  f166 := Tryz.func45.trans (congrArg some (by kernel_rfl))
  f167 := Tryz.func67.trans (congrArg some (by kernel_rfl))
  f168 := Tryz.func83.trans (congrArg some (by kernel_rfl))
  f169 := Tryz.func46.trans (congrArg some (by kernel_rfl))
  f197 := Tryz.func81.trans (congrArg some (by kernel_rfl))
  f203 := Tryz.func69.trans (congrArg some (by kernel_rfl))
  f230 := Tryz.func68.trans (congrArg some (by kernel_rfl))
  f240 := Tryz.func70.trans (congrArg some (by kernel_rfl))
  f241 := Tryz.func71.trans (congrArg some (by kernel_rfl))
  f242 := Tryz.func94.trans (congrArg some (by kernel_rfl))
  f260 := Tryz.func93.trans (congrArg some (by kernel_rfl))
  f262 := Tryz.func85.trans (congrArg some (by kernel_rfl))
  f270 := Tryz.func84.trans (congrArg some (by kernel_rfl))
  f274 := Tryz.func99.trans (congrArg some (by kernel_rfl))
  f275 := Tryz.func100.trans (congrArg some (by kernel_rfl))
  f276 := Tryz.func86.trans (congrArg some (by kernel_rfl))
  f277 := Tryz.func87.trans (congrArg some (by kernel_rfl))
  f278 := Tryz.func98.trans (congrArg some (by kernel_rfl))
  f313 := Tryz.func95.trans (congrArg some (by kernel_rfl))
  t0 := Tryz.underlying0
  a0 := Tryz.isAgg0
  z0 := Tryz.sizeOf0
  v0 := Tryz.zeroValue0
  t3 := Tryz.underlying3
  a3 := Tryz.isAgg3
  z3 := Tryz.sizeOf3
  v3 := Tryz.zeroValue3
  t4 := Tryz.underlying4
  a4 := Tryz.isAgg4
  z4 := Tryz.sizeOf4
  v4 := Tryz.zeroValue4
  t5 := Tryz.underlying5
  a5 := Tryz.isAgg5
  z5 := Tryz.sizeOf5
  v5 := Tryz.zeroValue5
  t9 := Tryz.underlying9
  a9 := Tryz.isAgg9
  z9 := Tryz.sizeOf9
  v9 := Tryz.zeroValue9
  t20 := Tryz.underlying20
  a20 := Tryz.isAgg20
  z20 := Tryz.sizeOf20
  v20 := Tryz.zeroValue20
  t21 := Tryz.underlying21
  a21 := Tryz.isAgg21
  z21 := Tryz.sizeOf21
  v21 := Tryz.zeroValue21
  t37 := Tryz.underlying60
  a37 := Tryz.isAgg60
  z37 := Tryz.sizeOf60
  v37 := Tryz.zeroValue60
  t46 := Tryz.underlying47
  a46 := Tryz.isAgg47
  z46 := Tryz.sizeOf47
  v46 := Tryz.zeroValue47
  t51 := Tryz.underlying88
  a51 := Tryz.isAgg88
  z51 := Tryz.sizeOf88
  v51 := Tryz.zeroValue88
  t70 := Tryz.underlying74
  a70 := Tryz.isAgg74
  z70 := Tryz.sizeOf74
  v70 := Tryz.zeroValue74
  t72 := Tryz.underlying76
  a72 := Tryz.isAgg76
  z72 := Tryz.sizeOf76
  v72 := Tryz.zeroValue76
  t75 := Tryz.underlying40
  a75 := Tryz.isAgg40
  z75 := Tryz.sizeOf40
  v75 := Tryz.zeroValue40
  t76 := Tryz.underlying78
  a76 := Tryz.isAgg78
  z76 := Tryz.sizeOf78
  v76 := Tryz.zeroValue78
  t105 := Tryz.underlying110
  a105 := Tryz.isAgg110
  z105 := Tryz.sizeOf110
  v105 := Tryz.zeroValue110
  t107 := Tryz.underlying96
  a107 := Tryz.isAgg96
  z107 := Tryz.sizeOf96
  v107 := Tryz.zeroValue96
  t119 := Tryz.underlying130
  a119 := Tryz.isAgg130
  z119 := Tryz.sizeOf130
  t127 := Tryz.underlying97
  a127 := Tryz.isAgg97
  z127 := Tryz.sizeOf97
  v127 := Tryz.zeroValue97
  t138 := Tryz.underlying132
  a138 := Tryz.isAgg132
  z138 := Tryz.sizeOf132
  v138 := Tryz.zeroValue132
  t139 := Tryz.underlying133
  a139 := Tryz.isAgg133
  z139 := Tryz.sizeOf133
  v139 := Tryz.zeroValue133
  t160 := Tryz.underlying134
  a160 := Tryz.isAgg134
  z160 := Tryz.sizeOf134
  v160 := Tryz.zeroValue134
  t162 := Tryz.underlying128
  a162 := Tryz.isAgg128
  z162 := Tryz.sizeOf128
  v162 := Tryz.zeroValue128
  t164 := Tryz.underlying115
  a164 := Tryz.isAgg115
  z164 := Tryz.sizeOf115
  v164 := Tryz.zeroValue115
  t203 := Tryz.underlying126
  a203 := Tryz.isAgg126
  z203 := Tryz.sizeOf126
  v203 := Tryz.zeroValue126
  t206 := Tryz.underlying140
  a206 := Tryz.isAgg140
  z206 := Tryz.sizeOf140
  v206 := Tryz.zeroValue140
  t208 := Tryz.underlying142
  a208 := Tryz.isAgg142
  z208 := Tryz.sizeOf142
  v208 := Tryz.zeroValue142
  g3 := by kernel_rfl
  g4 := by kernel_rfl
  g13 := by kernel_rfl }
theorem Tryz.Builder_Extra_158 : Builder.Extra Tryz.prog Tryz.lays158_ren := {
  sizeBuilder := by kernel_rfl
  liesBuilder := by kernel_rfl
  t5 := Tryz.underlying5
  a5 := Tryz.isAgg5
  z5 := Tryz.sizeOf5
  v5 := Tryz.zeroValue5
  infoByte := by kernel_rfl
  cellsByte := by kernel_rfl
  sizeByte := by kernel_rfl
  neB5 := by decide }
open Go.RowKit in
/-- strings.ToUpper: "ToUpper returns s with all Unicode letters mapped to their upper case.": ON ASCII TEXT OF AT MOST 2^47 BYTES. Below the heap's end the world is as it was: where a letter turns, the call makes a builder and its buffer. (LAID: no walk: one application.) -/
theorem Tryz.strings_ToUpper_ascii (s : ByteArray) (w : World) (hs : s.size ≤ 140737488355328) (hascii : ∀ (j : Nat) (b : UInt8), s.data.toList[j]? = some b → b.toNat < 128) :
    Calls Tryz.prog 43 #[.string s] w fun e w' => e = .returned (.string ⟨(Lib.toUpperA s.data.toList).toArray⟩) ∧ Below w.heap.size w w' := Any.strings_ToUpper_ascii Tryz.lays158 Tryz.Builder_Extra_158 s w hs hascii
def Tryz.lays156_ren : Go.Shelf.Ren := ⟨fun | 156 => 19 | 165 => 44 | 166 => 45 | 169 => 46 | 240 => 70 | 241 => 71 | 276 => 86 | 277 => 87 | n => n, fun | 31 => 48 | 9 => 9 | 3 => 3 | 4 => 4 | 0 => 0 | 20 => 20 | 72 => 76 | 76 => 78 | 70 => 74 | 37 => 60 | 75 => 40 | 127 => 97 | 164 => 115 | 5 => 5 | 80 => 38 | n => n, fun | n => n⟩
theorem Tryz.lays156 : Go.Proofs.Lays.n156 Tryz.prog Tryz.lays156_ren := {
  mixed := by kernel_rfl
  f156 := Tryz.func19.trans (congrArg some (by kernel_rfl))
  f165 := Tryz.func44.trans (congrArg some (by kernel_rfl))
  f166 := Tryz.func45.trans (congrArg some (by kernel_rfl))
  f169 := Tryz.func46.trans (congrArg some (by kernel_rfl))
  f240 := Tryz.func70.trans (congrArg some (by kernel_rfl))
  f241 := Tryz.func71.trans (congrArg some (by kernel_rfl))
  f276 := Tryz.func86.trans (congrArg some (by kernel_rfl))
  f277 := Tryz.func87.trans (congrArg some (by kernel_rfl))
  t0 := Tryz.underlying0
  a0 := Tryz.isAgg0
  z0 := Tryz.sizeOf0
  v0 := Tryz.zeroValue0
  t3 := Tryz.underlying3
  a3 := Tryz.isAgg3
  z3 := Tryz.sizeOf3
  v3 := Tryz.zeroValue3
  t4 := Tryz.underlying4
  a4 := Tryz.isAgg4
  z4 := Tryz.sizeOf4
  v4 := Tryz.zeroValue4
  t9 := Tryz.underlying9
  a9 := Tryz.isAgg9
  z9 := Tryz.sizeOf9
  v9 := Tryz.zeroValue9
  t20 := Tryz.underlying20
  a20 := Tryz.isAgg20
  z20 := Tryz.sizeOf20
  v20 := Tryz.zeroValue20
  t31 := Tryz.underlying48
  a31 := Tryz.isAgg48
  z31 := Tryz.sizeOf48
  v31 := Tryz.zeroValue48
  t37 := Tryz.underlying60
  a37 := Tryz.isAgg60
  z37 := Tryz.sizeOf60
  v37 := Tryz.zeroValue60
  t70 := Tryz.underlying74
  a70 := Tryz.isAgg74
  z70 := Tryz.sizeOf74
  v70 := Tryz.zeroValue74
  t72 := Tryz.underlying76
  a72 := Tryz.isAgg76
  z72 := Tryz.sizeOf76
  v72 := Tryz.zeroValue76
  t75 := Tryz.underlying40
  a75 := Tryz.isAgg40
  z75 := Tryz.sizeOf40
  v75 := Tryz.zeroValue40
  t76 := Tryz.underlying78
  a76 := Tryz.isAgg78
  z76 := Tryz.sizeOf78
  v76 := Tryz.zeroValue78
  t127 := Tryz.underlying97
  a127 := Tryz.isAgg97
  z127 := Tryz.sizeOf97
  v127 := Tryz.zeroValue97
  t164 := Tryz.underlying115
  a164 := Tryz.isAgg115
  z164 := Tryz.sizeOf115
  v164 := Tryz.zeroValue115 }
theorem Tryz.Builder_Extra_156 : Builder.Extra Tryz.prog Tryz.lays156_ren := {
  sizeBuilder := by kernel_rfl
  liesBuilder := by kernel_rfl
  t5 := Tryz.underlying5
  a5 := Tryz.isAgg5
  z5 := Tryz.sizeOf5
  v5 := Tryz.zeroValue5
  infoByte := by kernel_rfl
  cellsByte := by kernel_rfl
  sizeByte := by kernel_rfl
  neB5 := by decide }
open Go.RowKit in
/-- No element: the empty string; the world is as it was. (Whatever the slice's address and capacity: a nil slice too.) (LAID: no walk: one application.) -/
theorem Tryz.strings_Join_none (a : Option Addr) (c : Nat) (sep : ByteArray) (w : World) :
    Calls Tryz.prog 19 #[.slice a 0 c, .string sep] w fun e w' => e = .returned (.string ⟨#[]⟩) ∧ w' = w := Any.strings_Join_none Tryz.lays156 Tryz.Builder_Extra_156 a c sep w
open Go.RowKit in
/-- strings.Join: "Join concatenates the elements of its first argument to create a single string. The separator string sep is placed between elements in the resulting string.": HOWEVER MANY ELEMENTS. Below the heap's end the world is as it was. (LAID: no walk: one application.) -/
theorem Tryz.strings_Join (bk o c : Nat) (xs : List ByteArray) (sep : ByteArray) (w : World) (hcells : ∀ (j : Nat) x, xs[j]? = some x → w.cell? ⟨bk, o + j, none⟩ = some (.string x)) (hbk : bk < w.heap.size) (hN : xs.length ≤ 140737488355328) (hcap : xs.length ≤ c) (hlen : (Lib.join (xs.map (·.data.toList)) sep.data.toList).length ≤ 140737488355328) :
    Calls Tryz.prog 19 #[.slice (some ⟨bk, o, none⟩) xs.length c, .string sep] w fun e w' => e = .returned (.string ⟨(Lib.join (xs.map (·.data.toList)) sep.data.toList).toArray⟩) ∧ Below w.heap.size w w' := Any.strings_Join Tryz.lays156 Tryz.Builder_Extra_156 bk o c xs sep w hcells hbk hN hcap hlen
def Tryz.lays118_ren : Go.Shelf.Ren := ⟨fun | 118 => 82 | n => n, fun | 21 => 21 | 3 => 3 | 4 => 4 | n => n, fun | n => n⟩
theorem Tryz.lays118 : Go.Proofs.Lays.n118 Tryz.prog Tryz.lays118_ren := {
  mixed := by kernel_rfl
  f118 := Tryz.func82.trans (congrArg some (by kernel_rfl))
  t3 := Tryz.underlying3
  a3 := Tryz.isAgg3
  z3 := Tryz.sizeOf3
  v3 := Tryz.zeroValue3
  t4 := Tryz.underlying4
  a4 := Tryz.isAgg4
  z4 := Tryz.sizeOf4
  v4 := Tryz.zeroValue4
  t21 := Tryz.underlying21
  a21 := Tryz.isAgg21
  z21 := Tryz.sizeOf21
  v21 := Tryz.zeroValue21 }
/-- utf8.RuneLen: "RuneLen returns the number of bytes in the UTF-8 encoding of the rune. It returns -1 if the rune is not a valid value to encode in UTF-8.": IT RETURNS 'Lib.runeLen r'; the world is as it was. (LAID: no walk: one application.) -/
theorem Tryz.utf8_RuneLen (r : Int) (w : World) :
    Calls Tryz.prog 82 #[.int .i32 r] w fun e w' => e = .returned (.int .i64 (Lib.runeLen r)) ∧ w' = w := Any.utf8_RuneLen Tryz.lays118 r w
open Go.RowKit in
/-- (*strings.Builder).Len: "Len returns the number of accumulated bytes; b.Len() == len(b.String()).": the world is as it was. (THE FORM '_f': 'Lib.IsBuilderF'.) (LAID: no walk: one application.) -/
theorem Tryz.Builder_Len_f (B b : Nat) (bs : List Value) (w : World) (h : Lib.IsBuilderF 76 5 B b bs w) :
    Calls Tryz.prog 66 #[.pointer (some ⟨b, 0, none⟩)] w fun e w' => e = .returned (.int .i64 bs.length) ∧ w' = w := Any.Builder_Len_f Tryz.lays170 B b bs w h
open Go.RowKit in
/-- (*strings.Builder).String: "String returns the accumulated string.": OF A BUILDER THAT HOLDS AT LEAST ONE BYTE. ✋ THE MODEL FREEZES THOSE BYTES IN THE BUFFER (unsafe.String): a later write INTO them ends the model's run without an answer; a later append BEHIND them goes on. The statement's order of evaluation is drawn: one draw. THE FORM '_f': IT SAYS BESIDES THAT THE BUILDER IS A BUILDER STILL ('Lib.IsBuilderF', the same bytes): SO IT CAN BE WRITTEN ON: 'b.WriteString(b.String()[:k])'. (LAID: no walk: one application.) -/
theorem Tryz.Builder_String_f (B b : Nat) (l : List UInt8) (w : World) (h : Lib.IsBuilderF 76 5 B b (Lib.byteCells l) w) (h0 : l ≠ []) :
    Calls Tryz.prog 46 #[.pointer (some ⟨b, 0, none⟩)] w fun e w' => e = .returned (.string ⟨l.toArray⟩) ∧ (Lib.IsBuilderF 76 5 B b (Lib.byteCells l) w' ∧ Below B w w') := Any.Builder_String_f Tryz.lays169 Tryz.Builder_Extra_169 B b l w h h0
open Go.RowKit in
/-- (*strings.Builder).String OF A BUILDER THAT HOLDS NO BYTE: the empty string; THE FORM '_f': a builder still. (LAID: no walk: one application.) -/
theorem Tryz.Builder_String_empty_f (B b : Nat) (w : World) (h : Lib.IsBuilderF 76 5 B b [] w) (hBw : B ≤ w.heap.size) :
    Calls Tryz.prog 46 #[.pointer (some ⟨b, 0, none⟩)] w fun e w' => e = .returned (.string ⟨#[]⟩) ∧ (Lib.IsBuilderF 76 5 B b [] w' ∧ Below B w w') := Any.Builder_String_empty_f Tryz.lays169 Tryz.Builder_Extra_169 B b w h hBw
open Go.RowKit in
/-- (*strings.Builder).String: "String returns the accumulated string.": WHATEVER THE BUILDER HOLDS; THE FORM '_f': OF A BUILDER THAT MAY HAVE BEEN READ BEFORE; AND IT IS A BUILDER STILL, holding the same bytes: it can be written on. (LAID: no walk: one application.) -/
theorem Tryz.Builder_String_any_f (B b : Nat) (l : List UInt8) (w : World) (h : Lib.IsBuilderF 76 5 B b (Lib.byteCells l) w) (hBw : B ≤ w.heap.size) :
    Calls Tryz.prog 46 #[.pointer (some ⟨b, 0, none⟩)] w fun e w' => e = .returned (.string ⟨l.toArray⟩) ∧ (Lib.IsBuilderF 76 5 B b (Lib.byteCells l) w' ∧ Below B w w') := Any.Builder_String_any_f Tryz.lays169 Tryz.Builder_Extra_169 B b l w h hBw
open Go.RowKit in
/-- (*strings.Builder).String: "String returns the accumulated string.": OF A BUILDER THAT HOLDS AT LEAST ONE BYTE. ✋ THE MODEL FREEZES THOSE BYTES IN THE BUFFER (unsafe.String): a later write INTO them ends the model's run without an answer; a later append BEHIND them goes on. The statement's order of evaluation is drawn: one draw. THE FORM '_k': OVER 'Lib.IsBuilderF' (a builder that 'String()' may have read), AND WITH THE FRAME THAT REACHES ABOVE THE BUILDER: 'Lib.OthersKept': every block that is not b and is no row of uint8's stands as it stood: the iterator of a range among them. (LAID: no walk: one application.) -/
theorem Tryz.Builder_String_k (B b : Nat) (l : List UInt8) (w : World) (h : Lib.IsBuilderF 76 5 B b (Lib.byteCells l) w) (h0 : l ≠ []) :
    Calls Tryz.prog 46 #[.pointer (some ⟨b, 0, none⟩)] w fun e w' => e = .returned (.string ⟨l.toArray⟩) ∧ (Lib.IsBuilderF 76 5 B b (Lib.byteCells l) w' ∧ Below B w w' ∧ Lib.OthersKept 5 (some b) w w') := Any.Builder_String_k Tryz.lays169 Tryz.Builder_Extra_169 B b l w h h0
open Go.RowKit in
/-- (*strings.Builder).String OF A BUILDER THAT HOLDS NO BYTE: the empty string; THE FORM '_k': OVER 'Lib.IsBuilderF' (a builder that 'String()' may have read), AND WITH THE FRAME THAT REACHES ABOVE THE BUILDER: 'Lib.OthersKept': every block that is not b and is no row of uint8's stands as it stood: the iterator of a range among them. (LAID: no walk: one application.) -/
theorem Tryz.Builder_String_empty_k (B b : Nat) (w : World) (h : Lib.IsBuilderF 76 5 B b [] w) (hBw : B ≤ w.heap.size) :
    Calls Tryz.prog 46 #[.pointer (some ⟨b, 0, none⟩)] w fun e w' => e = .returned (.string ⟨#[]⟩) ∧ (Lib.IsBuilderF 76 5 B b [] w' ∧ Below B w w' ∧ Lib.OthersKept 5 (some b) w w') := Any.Builder_String_empty_k Tryz.lays169 Tryz.Builder_Extra_169 B b w h hBw
open Go.RowKit in
/-- (*strings.Builder).String: "String returns the accumulated string.": WHATEVER THE BUILDER HOLDS; THE FORM '_k': OVER 'Lib.IsBuilderF' (a builder that 'String()' may have read), AND WITH THE FRAME THAT REACHES ABOVE THE BUILDER: 'Lib.OthersKept': every block that is not b and is no row of uint8's stands as it stood: the iterator of a range among them. (LAID: no walk: one application.) -/
theorem Tryz.Builder_String_any_k (B b : Nat) (l : List UInt8) (w : World) (h : Lib.IsBuilderF 76 5 B b (Lib.byteCells l) w) (hBw : B ≤ w.heap.size) :
    Calls Tryz.prog 46 #[.pointer (some ⟨b, 0, none⟩)] w fun e w' => e = .returned (.string ⟨l.toArray⟩) ∧ (Lib.IsBuilderF 76 5 B b (Lib.byteCells l) w' ∧ Below B w w' ∧ Lib.OthersKept 5 (some b) w w') := Any.Builder_String_any_k Tryz.lays169 Tryz.Builder_Extra_169 B b l w h hBw
open Go.RowKit in
/-- (*strings.Builder).grow (no doc but "grow copies the buffer to a new, larger buffer so that there are at least n bytes of capacity beyond len(b.buf)."): AT A BUILDER WITHOUT A BUFFER: a new row of whatever bytes for its buffer, none of them its own yet. Three draws. (LAID: no walk: one application.) -/
theorem Tryz.Builder_grow_fresh_cap (B b n : Nat) (w : World) (hB : B ≤ b) (hbk : w.heap[b]? = some (.cells #[.pointer (some ⟨b, 0, none⟩), .slice none 0 0] 76 (0, 0))) (hBw : B ≤ w.heap.size) (hn : n ≤ 281474976710656) :
    Calls Tryz.prog 71 #[.pointer (some ⟨b, 0, none⟩), .int .i64 n] w fun e w' => e = .returned (.tuple #[]) ∧ (Lib.BuilderAt 76 5 B b (.pointer (some ⟨b, 0, none⟩)) [] w' ∧ Below B w w') ∧ ∃ p cap, w'.cell? ⟨b, 1, none⟩ = some (.slice p 0 cap) ∧ n ≤ cap := Any.Builder_grow_fresh_cap Tryz.lays241 Tryz.Builder_Extra_241 B b n w hB hbk hBw hn
open Go.RowKit in
/-- (*strings.Builder).Grow AT A BUILDER THAT HAS NOT BEEN WRITTEN ('var b strings.Builder; b.Grow(n)'): "Grow grows b's capacity, if necessary, to guarantee space for another n bytes.": it holds no byte behind it as before it. (LAID: no walk: one application.) -/
theorem Tryz.Builder_Grow_fresh_cap (B b n : Nat) (w : World) (hB : B ≤ b) (hbk : w.heap[b]? = some (.cells #[.pointer none, .slice none 0 0] 76 (0, 0))) (hBw : B ≤ w.heap.size) (hn : n ≤ 281474976710656) :
    Calls Tryz.prog 44 #[.pointer (some ⟨b, 0, none⟩), .int .i64 n] w fun e w' => e = .returned (.tuple #[]) ∧ (Lib.BuilderAt 76 5 B b (.pointer (some ⟨b, 0, none⟩)) [] w' ∧ Below B w w') ∧ ∃ p cap, w'.cell? ⟨b, 1, none⟩ = some (.slice p 0 cap) ∧ n ≤ cap := Any.Builder_Grow_fresh_cap Tryz.lays165 Tryz.Builder_Extra_165 B b n w hB hbk hBw hn
def Tryz.lays129_ren : Go.Shelf.Ren := ⟨fun | 129 => 89 | n => n, fun | 53 => 22 | 3 => 3 | 4 => 4 | 46 => 47 | 5 => 5 | 9 => 9 | n => n, fun | n => n⟩
theorem Tryz.lays129 : Go.Proofs.Lays.n129 Tryz.prog Tryz.lays129_ren := {
  mixed := by kernel_rfl
  f129 := Tryz.func89.trans (congrArg some (by kernel_rfl))
  t3 := Tryz.underlying3
  a3 := Tryz.isAgg3
  z3 := Tryz.sizeOf3
  v3 := Tryz.zeroValue3
  t4 := Tryz.underlying4
  a4 := Tryz.isAgg4
  z4 := Tryz.sizeOf4
  v4 := Tryz.zeroValue4
  t5 := Tryz.underlying5
  a5 := Tryz.isAgg5
  z5 := Tryz.sizeOf5
  v5 := Tryz.zeroValue5
  t9 := Tryz.underlying9
  a9 := Tryz.isAgg9
  z9 := Tryz.sizeOf9
  v9 := Tryz.zeroValue9
  t46 := Tryz.underlying47
  a46 := Tryz.isAgg47
  z46 := Tryz.sizeOf47
  v46 := Tryz.zeroValue47
  t53 := Tryz.underlying22
  a53 := Tryz.isAgg22
  z53 := Tryz.sizeOf22
  v53 := Tryz.zeroValue22 }
/-- bits.Len64: "Len64 returns the minimum number of bits required to represent x; the result is 0 for x == 0.": IT RETURNS 'Lib.bitLen x'; the world is as it was. ('h0', 'h1': x is a uint64.) (LAID: no walk: one application.) -/
theorem Tryz.bits_Len64 (x : Int) (w : World) (h0 : 0 ≤ x) (h1 : x ≤ 18446744073709551615) :
    Calls Tryz.prog 89 #[.int .u64 x] w fun e w' => e = .returned (.int .i64 (Lib.bitLen x.toNat)) ∧ w' = w := Any.bits_Len64 Tryz.lays129 x w h0 h1
def Tryz.lays317_ren : Go.Shelf.Ren := ⟨fun | 317 => 88 | n => n, fun | 3 => 3 | 46 => 47 | n => n, fun | n => n⟩
theorem Tryz.lays317 : Go.Proofs.Lays.n317 Tryz.prog Tryz.lays317_ren := {
  mixed := by kernel_rfl
  f317 := Tryz.func88.trans (congrArg some (by kernel_rfl))
  t3 := Tryz.underlying3
  a3 := Tryz.isAgg3
  z3 := Tryz.sizeOf3
  v3 := Tryz.zeroValue3
  t46 := Tryz.underlying47
  a46 := Tryz.isAgg47
  z46 := Tryz.sizeOf47
  v46 := Tryz.zeroValue47 }
open Go.Lib in
/-- internal/strconv.log10Pow2: "log10Pow2(x) returns ⌊log₁₀ 2**x⌋ = ⌊x * log₁₀ 2⌋.": '(x * 78913) >> 18', at an x up to 64 (a length in bits). The world is as it was. (LAID: no walk: one application.) -/
theorem Tryz.internal_strconv_log10Pow2 (x : Nat) (h : x ≤ 64) (w : World) :
    Calls Tryz.prog 88 #[.int .i64 x] w fun e w' => e = .returned (.int .i64 (Lib.l10 x)) ∧ w' = w := Any.internal_strconv_log10Pow2 Tryz.lays317 x h w
def Tryz.lays318_ren : Go.Shelf.Ren := ⟨fun | 318 => 90 | n => n, fun | 3 => 3 | 4 => 4 | n => n, fun | n => n⟩
theorem Tryz.lays318 : Go.Proofs.Lays.n318 Tryz.prog Tryz.lays318_ren := {
  mixed := by kernel_rfl
  f318 := Tryz.func90.trans (congrArg some (by kernel_rfl))
  t3 := Tryz.underlying3
  a3 := Tryz.isAgg3
  z3 := Tryz.sizeOf3
  v3 := Tryz.zeroValue3
  t4 := Tryz.underlying4
  a4 := Tryz.isAgg4
  z4 := Tryz.sizeOf4
  v4 := Tryz.zeroValue4 }
open Go.Lib in
/-- internal/strconv.bool2: "bool2 converts b to an integer: 1 for true, 0 for false." The world is as it was. (LAID: no walk: one application.) -/
theorem Tryz.internal_strconv_bool2_int (b : Bool) (w : World) :
    Calls Tryz.prog 90 #[.bool b] w fun e w' => e = .returned (.int .i64 (if b then 1 else 0)) ∧ w' = w := Any.internal_strconv_bool2_int Tryz.lays318 b w
def Tryz.lays283_ren : Go.Shelf.Ren := ⟨fun | 283 => 74 | n => n, fun | 3 => 3 | 9 => 9 | 4 => 4 | n => n, fun | n => n⟩
theorem Tryz.lays283 : Go.Proofs.Lays.n283 Tryz.prog Tryz.lays283_ren := {
  mixed := by kernel_rfl
  f283 := Tryz.func74.trans (congrArg some (by kernel_rfl))
  t3 := Tryz.underlying3
  a3 := Tryz.isAgg3
  z3 := Tryz.sizeOf3
  v3 := Tryz.zeroValue3
  t4 := Tryz.underlying4
  a4 := Tryz.isAgg4
  z4 := Tryz.sizeOf4
  v4 := Tryz.zeroValue4
  t9 := Tryz.underlying9
  a9 := Tryz.isAgg9
  z9 := Tryz.sizeOf9
  v9 := Tryz.zeroValue9 }
open Go.Lib in
/-- internal/strconv.small: "small returns the string for an i with 0 <= i < nSmalls.": i's decimal numeral. The world is as it was. (LAID: no walk: one application.) -/
theorem Tryz.internal_strconv_small (i : Nat) (h : i < 100) (w : World) :
    Calls Tryz.prog 74 #[.int .i64 i] w fun e w' => e = .returned (.string ⟨(Lib.decDigits i).toArray⟩) ∧ w' = w := Any.internal_strconv_small Tryz.lays283 i h w
def Tryz.laysM284_ren : Go.Shelf.Ren := ⟨fun | 284 => 75 | 129 => 89 | 317 => 88 | 318 => 90 | n => n, fun | 53 => 22 | 3 => 3 | 212 => 121 | 0 => 0 | 4 => 4 | 46 => 47 | 5 => 5 | 9 => 9 | n => n, fun | 17 => 0 | n => n⟩
theorem Tryz.laysM284 : Go.Proofs.LaysM.n284 Tryz.prog Tryz.laysM284_ren := {
  mixed := by kernel_rfl
  f129 := Tryz.func89.trans (congrArg some (by kernel_rfl))
  f284 := Tryz.func75.trans (congrArg some (by kernel_rfl))
  f317 := Tryz.func88.trans (congrArg some (by kernel_rfl))
  f318 := Tryz.func90.trans (congrArg some (by kernel_rfl))
  t0 := Tryz.underlying0
  a0 := Tryz.isAgg0
  z0 := Tryz.sizeOf0
  v0 := Tryz.zeroValue0
  t3 := Tryz.underlying3
  a3 := Tryz.isAgg3
  z3 := Tryz.sizeOf3
  v3 := Tryz.zeroValue3
  t4 := Tryz.underlying4
  a4 := Tryz.isAgg4
  z4 := Tryz.sizeOf4
  v4 := Tryz.zeroValue4
  t5 := Tryz.underlying5
  a5 := Tryz.isAgg5
  z5 := Tryz.sizeOf5
  v5 := Tryz.zeroValue5
  t9 := Tryz.underlying9
  a9 := Tryz.isAgg9
  z9 := Tryz.sizeOf9
  v9 := Tryz.zeroValue9
  t46 := Tryz.underlying47
  a46 := Tryz.isAgg47
  z46 := Tryz.sizeOf47
  v46 := Tryz.zeroValue47
  t53 := Tryz.underlying22
  a53 := Tryz.isAgg22
  z53 := Tryz.sizeOf22
  v53 := Tryz.zeroValue22
  t212 := Tryz.underlying121
  a212 := Tryz.isAgg121
  z212 := Tryz.sizeOf121
  v212 := Tryz.zeroValue121
  g17 := by kernel_rfl
  i0 := by kernel_rfl
  i3 := by kernel_rfl
  i4 := by kernel_rfl
  i5 := by kernel_rfl
  i9 := by kernel_rfl
  i46 := by kernel_rfl
  i53 := by kernel_rfl
  i212 := by kernel_rfl
  m17 := by kernel_rfl }
open Go.Lib in
/-- internal/strconv.numDigits, at a d that is not 0: THE NUMBER OF d's DECIMAL DIGITS. The world is as it was. (LAID: no walk: one application.) -/
theorem Tryz.internal_strconv_numDigits (u : Nat) (h1 : 1 ≤ u) (h2 : u < 18446744073709551616) (w : World) (htab : Lib.TabIs Tryz.prog w "internal/strconv.uint64pow10" .u64 Lib.pow10Tab) :
    Calls Tryz.prog 75 #[.int .u64 u] w fun e w' => e = .returned (.int .i64 (Lib.nDigits u)) ∧ w' = w := Any.internal_strconv_numDigits Tryz.laysM284 u h1 h2 w htab
def Tryz.lays285_ren : Go.Shelf.Ren := ⟨fun | 285 => 76 | n => n, fun | 37 => 60 | 53 => 22 | 3 => 3 | 4 => 4 | 51 => 88 | 9 => 9 | 5 => 5 | 0 => 0 | n => n, fun | n => n⟩
theorem Tryz.lays285 : Go.Proofs.Lays.n285 Tryz.prog Tryz.lays285_ren := {
  mixed := by kernel_rfl
  f285 := Tryz.func76.trans (congrArg some (by kernel_rfl))
  t0 := Tryz.underlying0
  a0 := Tryz.isAgg0
  z0 := Tryz.sizeOf0
  v0 := Tryz.zeroValue0
  t3 := Tryz.underlying3
  a3 := Tryz.isAgg3
  z3 := Tryz.sizeOf3
  v3 := Tryz.zeroValue3
  t4 := Tryz.underlying4
  a4 := Tryz.isAgg4
  z4 := Tryz.sizeOf4
  v4 := Tryz.zeroValue4
  t5 := Tryz.underlying5
  a5 := Tryz.isAgg5
  z5 := Tryz.sizeOf5
  v5 := Tryz.zeroValue5
  t9 := Tryz.underlying9
  a9 := Tryz.isAgg9
  z9 := Tryz.sizeOf9
  v9 := Tryz.zeroValue9
  t37 := Tryz.underlying60
  a37 := Tryz.isAgg60
  z37 := Tryz.sizeOf60
  v37 := Tryz.zeroValue60
  t51 := Tryz.underlying88
  a51 := Tryz.isAgg88
  z51 := Tryz.sizeOf88
  v51 := Tryz.zeroValue88
  t53 := Tryz.underlying22
  a53 := Tryz.isAgg22
  z53 := Tryz.sizeOf22
  v53 := Tryz.zeroValue22 }
open Go.RowKit Go.Sort Go.Lib in
/-- internal/strconv.formatBase10: "formatBase10 formats the decimal representation of u into a. The caller is responsible for ensuring that a is big enough to hold u. If a is too big, leading zeros will be filled in as needed.": THE ROW HOLDS u's DIGITS ('FmtInv .. 0 ..': every place t holds 'dg u (len - 1 - t)'); all else is as it was but for the count of draws. (LAID: no walk: one application.) -/
theorem Tryz.internal_strconv_formatBase10 (blk off cap : Nat) (u : Nat) (d : Array UInt8) (w : World) (hH : Holds (fun (b : UInt8) => Value.int .u8 (b.toNat : Int)) w blk off d) (hu : u < 10 ^ d.size) (hu64 : u < 18446744073709551616) (hsz : d.size < 4611686018427387904) :
    Calls Tryz.prog 76 #[.slice (some ⟨blk, off, none⟩) d.size cap, .int .u64 u] w fun e w' =>
      e = .returned (.tuple #[]) ∧ ∃ (n v' : Nat) (dk : Array UInt8), w' = (putRow (fun (b : UInt8) => Value.int .u8 (b.toNat : Int)) w blk off dk).drewN n ∧ FmtInv d.size u 0 v' dk := Any.internal_strconv_formatBase10 Tryz.lays285 blk off cap u d w hH hu hu64 hsz
def Tryz.laysM246_ren : Go.Shelf.Ren := ⟨fun | 246 => 73 | 283 => 74 | 284 => 75 | 285 => 76 | 286 => 77 | 129 => 89 | 317 => 88 | 318 => 90 | 319 => 91 | 320 => 92 | 337 => 96 | 338 => 97 | n => n, fun | 2 => 2 | 3 => 3 | 9 => 9 | 4 => 4 | 171 => 102 | 0 => 0 | 53 => 22 | 37 => 60 | 5 => 5 | 173 => 104 | 212 => 121 | 51 => 88 | 20 => 20 | 213 => 122 | 46 => 47 | 232 => 137 | 233 => 138 | n => n, fun | 17 => 0 | 18 => 5 | 19 => 6 | n => n⟩
theorem Tryz.laysM246 : Go.Proofs.LaysM.n246 Tryz.prog Tryz.laysM246_ren := {
  mixed := by kernel_rfl
  f129 := Tryz.func89.trans (congrArg some (by kernel_rfl))
  f246 := Tryz.func73.trans (congrArg some (by kernel_rfl))
  f283 := Tryz.func74.trans (congrArg some (by kernel_rfl))
  f284 := Tryz.func75.trans (congrArg some (by kernel_rfl))
  f285 := Tryz.func76.trans (congrArg some (by kernel_rfl))
  f286 := Tryz.func77.trans (congrArg some (by kernel_rfl))
  f317 := Tryz.func88.trans (congrArg some (by kernel_rfl))
  f318 := Tryz.func90.trans (congrArg some (by kernel_rfl))
  f319 := Tryz.func91.trans (congrArg some (by kernel_rfl))
  f320 := Tryz.func92.trans (congrArg some (by kernel_rfl))
  f337 := Tryz.func96.trans (congrArg some (by kernel_rfl))
  f338 := Tryz.func97.trans (congrArg some (by kernel_rfl))
  t0 := Tryz.underlying0
  a0 := Tryz.isAgg0
  z0 := Tryz.sizeOf0
  v0 := Tryz.zeroValue0
  t2 := Tryz.underlying2
  a2 := Tryz.isAgg2
  z2 := Tryz.sizeOf2
  v2 := Tryz.zeroValue2
  t3 := Tryz.underlying3
  a3 := Tryz.isAgg3
  z3 := Tryz.sizeOf3
  v3 := Tryz.zeroValue3
  t4 := Tryz.underlying4
  a4 := Tryz.isAgg4
  z4 := Tryz.sizeOf4
  v4 := Tryz.zeroValue4
  t5 := Tryz.underlying5
  a5 := Tryz.isAgg5
  z5 := Tryz.sizeOf5
  v5 := Tryz.zeroValue5
  t9 := Tryz.underlying9
  a9 := Tryz.isAgg9
  z9 := Tryz.sizeOf9
  v9 := Tryz.zeroValue9
  t20 := Tryz.underlying20
  a20 := Tryz.isAgg20
  z20 := Tryz.sizeOf20
  v20 := Tryz.zeroValue20
  t37 := Tryz.underlying60
  a37 := Tryz.isAgg60
  z37 := Tryz.sizeOf60
  v37 := Tryz.zeroValue60
  t46 := Tryz.underlying47
  a46 := Tryz.isAgg47
  z46 := Tryz.sizeOf47
  v46 := Tryz.zeroValue47
  t51 := Tryz.underlying88
  a51 := Tryz.isAgg88
  z51 := Tryz.sizeOf88
  v51 := Tryz.zeroValue88
  t53 := Tryz.underlying22
  a53 := Tryz.isAgg22
  z53 := Tryz.sizeOf22
  v53 := Tryz.zeroValue22
  t171 := Tryz.underlying102
  a171 := Tryz.isAgg102
  z171 := Tryz.sizeOf102
  v171 := Tryz.zeroValue102
  t173 := Tryz.underlying104
  a173 := Tryz.isAgg104
  z173 := Tryz.sizeOf104
  v173 := Tryz.zeroValue104
  t212 := Tryz.underlying121
  a212 := Tryz.isAgg121
  z212 := Tryz.sizeOf121
  v212 := Tryz.zeroValue121
  t213 := Tryz.underlying122
  a213 := Tryz.isAgg122
  z213 := Tryz.sizeOf122
  t232 := Tryz.underlying137
  a232 := Tryz.isAgg137
  z232 := Tryz.sizeOf137
  v232 := Tryz.zeroValue137
  t233 := Tryz.underlying138
  a233 := Tryz.isAgg138
  z233 := Tryz.sizeOf138
  v233 := Tryz.zeroValue138
  g17 := by kernel_rfl
  g18 := by kernel_rfl
  g19 := by kernel_rfl
  i0 := by kernel_rfl
  i2 := by kernel_rfl
  i3 := by kernel_rfl
  i4 := by kernel_rfl
  i5 := by kernel_rfl
  i9 := by kernel_rfl
  i20 := by kernel_rfl
  i37 := by kernel_rfl
  i46 := by kernel_rfl
  i51 := by kernel_rfl
  i53 := by kernel_rfl
  i171 := by kernel_rfl
  i173 := by kernel_rfl
  i212 := by kernel_rfl
  i232 := by kernel_rfl
  i233 := by kernel_rfl
  m17 := by kernel_rfl
  m18 := by kernel_rfl
  m19 := by kernel_rfl }
open Go.RowKit Go.Sort Go.Lib in
/-- internal/strconv.FormatInt: "FormatInt returns the string representation of i in the given base": AT BASE 10: i's decimal numeral, for every int64. The world behind the call: the world before it, new blocks behind the heap, draws. (LAID: no walk: one application.) -/
theorem Tryz.internal_strconv_FormatInt_10 (n : Int) (h0 : -9223372036854775808 ≤ n) (h1 : n ≤ 9223372036854775807) (w : World) (htab : Lib.TabIs Tryz.prog w "internal/strconv.uint64pow10" .u64 Lib.pow10Tab) :
    Calls Tryz.prog 73 #[.int .i64 n, .int .i64 10] w fun e w' => e = .returned (.string ⟨(Lib.itoa n).toArray⟩) ∧ ∃ k os, w' = grow (w.drewN k) os := Any.internal_strconv_FormatInt_10 Tryz.laysM246 n h0 h1 w htab
def Tryz.lays246_ren : Go.Shelf.Ren := ⟨fun | 246 => 73 | 283 => 74 | 284 => 75 | 285 => 76 | 286 => 77 | 129 => 89 | 317 => 88 | 318 => 90 | 319 => 91 | 320 => 92 | 337 => 96 | 338 => 97 | n => n, fun | 2 => 2 | 3 => 3 | 9 => 9 | 4 => 4 | 171 => 102 | 0 => 0 | 53 => 22 | 37 => 60 | 5 => 5 | 173 => 104 | 212 => 121 | 51 => 88 | 20 => 20 | 213 => 122 | 46 => 47 | 232 => 137 | 233 => 138 | n => n, fun | 17 => 0 | 18 => 5 | 19 => 6 | n => n⟩
theorem Tryz.lays246 : Go.Proofs.Lays.n246 Tryz.prog Tryz.lays246_ren := {
  mixed := by kernel_rfl
  f129 := Tryz.func89.trans (congrArg some (by kernel_rfl))
  f246 := Tryz.func73.trans (congrArg some (by kernel_rfl))
  f283 := Tryz.func74.trans (congrArg some (by kernel_rfl))
  f284 := Tryz.func75.trans (congrArg some (by kernel_rfl))
  f285 := Tryz.func76.trans (congrArg some (by kernel_rfl))
  f286 := Tryz.func77.trans (congrArg some (by kernel_rfl))
  f317 := Tryz.func88.trans (congrArg some (by kernel_rfl))
  f318 := Tryz.func90.trans (congrArg some (by kernel_rfl))
  f319 := Tryz.func91.trans (congrArg some (by kernel_rfl))
  f320 := Tryz.func92.trans (congrArg some (by kernel_rfl))
  f337 := Tryz.func96.trans (congrArg some (by kernel_rfl))
  f338 := Tryz.func97.trans (congrArg some (by kernel_rfl))
  t0 := Tryz.underlying0
  a0 := Tryz.isAgg0
  z0 := Tryz.sizeOf0
  v0 := Tryz.zeroValue0
  t2 := Tryz.underlying2
  a2 := Tryz.isAgg2
  z2 := Tryz.sizeOf2
  v2 := Tryz.zeroValue2
  t3 := Tryz.underlying3
  a3 := Tryz.isAgg3
  z3 := Tryz.sizeOf3
  v3 := Tryz.zeroValue3
  t4 := Tryz.underlying4
  a4 := Tryz.isAgg4
  z4 := Tryz.sizeOf4
  v4 := Tryz.zeroValue4
  t5 := Tryz.underlying5
  a5 := Tryz.isAgg5
  z5 := Tryz.sizeOf5
  v5 := Tryz.zeroValue5
  t9 := Tryz.underlying9
  a9 := Tryz.isAgg9
  z9 := Tryz.sizeOf9
  v9 := Tryz.zeroValue9
  t20 := Tryz.underlying20
  a20 := Tryz.isAgg20
  z20 := Tryz.sizeOf20
  v20 := Tryz.zeroValue20
  t37 := Tryz.underlying60
  a37 := Tryz.isAgg60
  z37 := Tryz.sizeOf60
  v37 := Tryz.zeroValue60
  t46 := Tryz.underlying47
  a46 := Tryz.isAgg47
  z46 := Tryz.sizeOf47
  v46 := Tryz.zeroValue47
  t51 := Tryz.underlying88
  a51 := Tryz.isAgg88
  z51 := Tryz.sizeOf88
  v51 := Tryz.zeroValue88
  t53 := Tryz.underlying22
  a53 := Tryz.isAgg22
  z53 := Tryz.sizeOf22
  v53 := Tryz.zeroValue22
  t171 := Tryz.underlying102
  a171 := Tryz.isAgg102
  z171 := Tryz.sizeOf102
  v171 := Tryz.zeroValue102
  t173 := Tryz.underlying104
  a173 := Tryz.isAgg104
  z173 := Tryz.sizeOf104
  v173 := Tryz.zeroValue104
  t212 := Tryz.underlying121
  a212 := Tryz.isAgg121
  z212 := Tryz.sizeOf121
  v212 := Tryz.zeroValue121
  t213 := Tryz.underlying122
  a213 := Tryz.isAgg122
  z213 := Tryz.sizeOf122
  t232 := Tryz.underlying137
  a232 := Tryz.isAgg137
  z232 := Tryz.sizeOf137
  v232 := Tryz.zeroValue137
  t233 := Tryz.underlying138
  a233 := Tryz.isAgg138
  z233 := Tryz.sizeOf138
  v233 := Tryz.zeroValue138
  g17 := by kernel_rfl
  g18 := by kernel_rfl
  g19 := by kernel_rfl }
open Go.RowKit Go.Sort Go.Lib in
/-- THE ROAD WITHOUT THE TABLE: 0 <= i < 100: two constants are read, nothing is laid: no premise on the world, and the world is as it was. (LAID: no walk: one application.) -/
theorem Tryz.internal_strconv_FormatInt_10_small (i : Nat) (hi : i < 100) (w : World) :
    Calls Tryz.prog 73 #[.int .i64 i, .int .i64 10] w fun e w' => e = .returned (.string ⟨(Lib.decDigits i).toArray⟩) ∧ w' = w := Any.internal_strconv_FormatInt_10_small Tryz.lays246 i hi w
def Tryz.laysM243_ren : Go.Shelf.Ren := ⟨fun | 243 => 62 | 246 => 73 | 283 => 74 | 284 => 75 | 285 => 76 | 286 => 77 | 129 => 89 | 317 => 88 | 318 => 90 | 319 => 91 | 320 => 92 | 337 => 96 | 338 => 97 | n => n, fun | 3 => 3 | 9 => 9 | 2 => 2 | 4 => 4 | 171 => 102 | 0 => 0 | 53 => 22 | 37 => 60 | 5 => 5 | 173 => 104 | 212 => 121 | 51 => 88 | 20 => 20 | 213 => 122 | 46 => 47 | 232 => 137 | 233 => 138 | n => n, fun | 17 => 0 | 18 => 5 | 19 => 6 | n => n⟩
theorem Tryz.laysM243 : Go.Proofs.LaysM.n243 Tryz.prog Tryz.laysM243_ren := {
  mixed := by kernel_rfl
  f129 := Tryz.func89.trans (congrArg some (by kernel_rfl))
  f243 := Tryz.func62.trans (congrArg some (by kernel_rfl))
  f246 := Tryz.func73.trans (congrArg some (by kernel_rfl))
  f283 := Tryz.func74.trans (congrArg some (by kernel_rfl))
  f284 := Tryz.func75.trans (congrArg some (by kernel_rfl))
  f285 := Tryz.func76.trans (congrArg some (by kernel_rfl))
  f286 := Tryz.func77.trans (congrArg some (by kernel_rfl))
  f317 := Tryz.func88.trans (congrArg some (by kernel_rfl))
  f318 := Tryz.func90.trans (congrArg some (by kernel_rfl))
  f319 := Tryz.func91.trans (congrArg some (by kernel_rfl))
  f320 := Tryz.func92.trans (congrArg some (by kernel_rfl))
  f337 := Tryz.func96.trans (congrArg some (by kernel_rfl))
  f338 := Tryz.func97.trans (congrArg some (by kernel_rfl))
  t0 := Tryz.underlying0
  a0 := Tryz.isAgg0
  z0 := Tryz.sizeOf0
  v0 := Tryz.zeroValue0
  t2 := Tryz.underlying2
  a2 := Tryz.isAgg2
  z2 := Tryz.sizeOf2
  v2 := Tryz.zeroValue2
  t3 := Tryz.underlying3
  a3 := Tryz.isAgg3
  z3 := Tryz.sizeOf3
  v3 := Tryz.zeroValue3
  t4 := Tryz.underlying4
  a4 := Tryz.isAgg4
  z4 := Tryz.sizeOf4
  v4 := Tryz.zeroValue4
  t5 := Tryz.underlying5
  a5 := Tryz.isAgg5
  z5 := Tryz.sizeOf5
  v5 := Tryz.zeroValue5
  t9 := Tryz.underlying9
  a9 := Tryz.isAgg9
  z9 := Tryz.sizeOf9
  v9 := Tryz.zeroValue9
  t20 := Tryz.underlying20
  a20 := Tryz.isAgg20
  z20 := Tryz.sizeOf20
  v20 := Tryz.zeroValue20
  t37 := Tryz.underlying60
  a37 := Tryz.isAgg60
  z37 := Tryz.sizeOf60
  v37 := Tryz.zeroValue60
  t46 := Tryz.underlying47
  a46 := Tryz.isAgg47
  z46 := Tryz.sizeOf47
  v46 := Tryz.zeroValue47
  t51 := Tryz.underlying88
  a51 := Tryz.isAgg88
  z51 := Tryz.sizeOf88
  v51 := Tryz.zeroValue88
  t53 := Tryz.underlying22
  a53 := Tryz.isAgg22
  z53 := Tryz.sizeOf22
  v53 := Tryz.zeroValue22
  t171 := Tryz.underlying102
  a171 := Tryz.isAgg102
  z171 := Tryz.sizeOf102
  v171 := Tryz.zeroValue102
  t173 := Tryz.underlying104
  a173 := Tryz.isAgg104
  z173 := Tryz.sizeOf104
  v173 := Tryz.zeroValue104
  t212 := Tryz.underlying121
  a212 := Tryz.isAgg121
  z212 := Tryz.sizeOf121
  v212 := Tryz.zeroValue121
  t213 := Tryz.underlying122
  a213 := Tryz.isAgg122
  z213 := Tryz.sizeOf122
  t232 := Tryz.underlying137
  a232 := Tryz.isAgg137
  z232 := Tryz.sizeOf137
  v232 := Tryz.zeroValue137
  t233 := Tryz.underlying138
  a233 := Tryz.isAgg138
  z233 := Tryz.sizeOf138
  v233 := Tryz.zeroValue138
  g17 := by kernel_rfl
  g18 := by kernel_rfl
  g19 := by kernel_rfl
  i0 := by kernel_rfl
  i2 := by kernel_rfl
  i3 := by kernel_rfl
  i4 := by kernel_rfl
  i5 := by kernel_rfl
  i9 := by kernel_rfl
  i20 := by kernel_rfl
  i37 := by kernel_rfl
  i46 := by kernel_rfl
  i51 := by kernel_rfl
  i53 := by kernel_rfl
  i171 := by kernel_rfl
  i173 := by kernel_rfl
  i212 := by kernel_rfl
  i232 := by kernel_rfl
  i233 := by kernel_rfl
  m17 := by kernel_rfl
  m18 := by kernel_rfl
  m19 := by kernel_rfl }
open Go.RowKit Go.Sort Go.Lib in
/-- internal/strconv.Itoa: "Itoa is equivalent to FormatInt(int64(i), 10).": i's decimal numeral, for every int. (LAID: no walk: one application.) -/
theorem Tryz.internal_strconv_Itoa (n : Int) (h0 : -9223372036854775808 ≤ n) (h1 : n ≤ 9223372036854775807) (w : World) (htab : Lib.TabIs Tryz.prog w "internal/strconv.uint64pow10" .u64 Lib.pow10Tab) :
    Calls Tryz.prog 62 #[.int .i64 n] w fun e w' => e = .returned (.string ⟨(Lib.itoa n).toArray⟩) ∧ ∃ k os, w' = grow (w.drewN k) os := Any.internal_strconv_Itoa Tryz.laysM243 n h0 h1 w htab
def Tryz.lays243_ren : Go.Shelf.Ren := ⟨fun | 243 => 62 | 246 => 73 | 283 => 74 | 284 => 75 | 285 => 76 | 286 => 77 | 129 => 89 | 317 => 88 | 318 => 90 | 319 => 91 | 320 => 92 | 337 => 96 | 338 => 97 | n => n, fun | 3 => 3 | 9 => 9 | 2 => 2 | 4 => 4 | 171 => 102 | 0 => 0 | 53 => 22 | 37 => 60 | 5 => 5 | 173 => 104 | 212 => 121 | 51 => 88 | 20 => 20 | 213 => 122 | 46 => 47 | 232 => 137 | 233 => 138 | n => n, fun | 17 => 0 | 18 => 5 | 19 => 6 | n => n⟩
theorem Tryz.lays243 : Go.Proofs.Lays.n243 Tryz.prog Tryz.lays243_ren := {
  mixed := by kernel_rfl
  f129 := Tryz.func89.trans (congrArg some (by kernel_rfl))
  f243 := Tryz.func62.trans (congrArg some (by kernel_rfl))
  f246 := Tryz.func73.trans (congrArg some (by kernel_rfl))
  f283 := Tryz.func74.trans (congrArg some (by kernel_rfl))
  f284 := Tryz.func75.trans (congrArg some (by kernel_rfl))
  f285 := Tryz.func76.trans (congrArg some (by kernel_rfl))
  f286 := Tryz.func77.trans (congrArg some (by kernel_rfl))
  f317 := Tryz.func88.trans (congrArg some (by kernel_rfl))
  f318 := Tryz.func90.trans (congrArg some (by kernel_rfl))
  f319 := Tryz.func91.trans (congrArg some (by kernel_rfl))
  f320 := Tryz.func92.trans (congrArg some (by kernel_rfl))
  f337 := Tryz.func96.trans (congrArg some (by kernel_rfl))
  f338 := Tryz.func97.trans (congrArg some (by kernel_rfl))
  t0 := Tryz.underlying0
  a0 := Tryz.isAgg0
  z0 := Tryz.sizeOf0
  v0 := Tryz.zeroValue0
  t2 := Tryz.underlying2
  a2 := Tryz.isAgg2
  z2 := Tryz.sizeOf2
  v2 := Tryz.zeroValue2
  t3 := Tryz.underlying3
  a3 := Tryz.isAgg3
  z3 := Tryz.sizeOf3
  v3 := Tryz.zeroValue3
  t4 := Tryz.underlying4
  a4 := Tryz.isAgg4
  z4 := Tryz.sizeOf4
  v4 := Tryz.zeroValue4
  t5 := Tryz.underlying5
  a5 := Tryz.isAgg5
  z5 := Tryz.sizeOf5
  v5 := Tryz.zeroValue5
  t9 := Tryz.underlying9
  a9 := Tryz.isAgg9
  z9 := Tryz.sizeOf9
  v9 := Tryz.zeroValue9
  t20 := Tryz.underlying20
  a20 := Tryz.isAgg20
  z20 := Tryz.sizeOf20
  v20 := Tryz.zeroValue20
  t37 := Tryz.underlying60
  a37 := Tryz.isAgg60
  z37 := Tryz.sizeOf60
  v37 := Tryz.zeroValue60
  t46 := Tryz.underlying47
  a46 := Tryz.isAgg47
  z46 := Tryz.sizeOf47
  v46 := Tryz.zeroValue47
  t51 := Tryz.underlying88
  a51 := Tryz.isAgg88
  z51 := Tryz.sizeOf88
  v51 := Tryz.zeroValue88
  t53 := Tryz.underlying22
  a53 := Tryz.isAgg22
  z53 := Tryz.sizeOf22
  v53 := Tryz.zeroValue22
  t171 := Tryz.underlying102
  a171 := Tryz.isAgg102
  z171 := Tryz.sizeOf102
  v171 := Tryz.zeroValue102
  t173 := Tryz.underlying104
  a173 := Tryz.isAgg104
  z173 := Tryz.sizeOf104
  v173 := Tryz.zeroValue104
  t212 := Tryz.underlying121
  a212 := Tryz.isAgg121
  z212 := Tryz.sizeOf121
  v212 := Tryz.zeroValue121
  t213 := Tryz.underlying122
  a213 := Tryz.isAgg122
  z213 := Tryz.sizeOf122
  t232 := Tryz.underlying137
  a232 := Tryz.isAgg137
  z232 := Tryz.sizeOf137
  v232 := Tryz.zeroValue137
  t233 := Tryz.underlying138
  a233 := Tryz.isAgg138
  z233 := Tryz.sizeOf138
  v233 := Tryz.zeroValue138
  g17 := by kernel_rfl
  g18 := by kernel_rfl
  g19 := by kernel_rfl }
open Go.RowKit Go.Sort Go.Lib in
/-- THE ROAD WITHOUT THE TABLE: 0 <= i < 100. (LAID: no walk: one application.) -/
theorem Tryz.internal_strconv_Itoa_small (i : Nat) (hi : i < 100) (w : World) :
    Calls Tryz.prog 62 #[.int .i64 i] w fun e w' => e = .returned (.string ⟨(Lib.decDigits i).toArray⟩) ∧ w' = w := Any.internal_strconv_Itoa_small Tryz.lays243 i hi w
def Tryz.laysM171_ren : Go.Shelf.Ren := ⟨fun | 171 => 40 | 243 => 62 | 246 => 73 | 283 => 74 | 284 => 75 | 285 => 76 | 286 => 77 | 129 => 89 | 317 => 88 | 318 => 90 | 319 => 91 | 320 => 92 | 337 => 96 | 338 => 97 | n => n, fun | 3 => 3 | 9 => 9 | 2 => 2 | 4 => 4 | 171 => 102 | 0 => 0 | 53 => 22 | 37 => 60 | 5 => 5 | 173 => 104 | 212 => 121 | 51 => 88 | 20 => 20 | 213 => 122 | 46 => 47 | 232 => 137 | 233 => 138 | n => n, fun | 17 => 0 | 18 => 5 | 19 => 6 | n => n⟩
theorem Tryz.laysM171 : Go.Proofs.LaysM.n171 Tryz.prog Tryz.laysM171_ren := {
  mixed := by kernel_rfl
  f129 := Tryz.func89.trans (congrArg some (by kernel_rfl))
  f171 := Tryz.func40.trans (congrArg some (by kernel_rfl))
  f243 := Tryz.func62.trans (congrArg some (by kernel_rfl))
  f246 := Tryz.func73.trans (congrArg some (by kernel_rfl))
  f283 := Tryz.func74.trans (congrArg some (by kernel_rfl))
  f284 := Tryz.func75.trans (congrArg some (by kernel_rfl))
  f285 := Tryz.func76.trans (congrArg some (by kernel_rfl))
  f286 := Tryz.func77.trans (congrArg some (by kernel_rfl))
  f317 := Tryz.func88.trans (congrArg some (by kernel_rfl))
  f318 := Tryz.func90.trans (congrArg some (by kernel_rfl))
  f319 := Tryz.func91.trans (congrArg some (by kernel_rfl))
  f320 := Tryz.func92.trans (congrArg some (by kernel_rfl))
  f337 := Tryz.func96.trans (congrArg some (by kernel_rfl))
  f338 := Tryz.func97.trans (congrArg some (by kernel_rfl))
  t0 := Tryz.underlying0
  a0 := Tryz.isAgg0
  z0 := Tryz.sizeOf0
  v0 := Tryz.zeroValue0
  t2 := Tryz.underlying2
  a2 := Tryz.isAgg2
  z2 := Tryz.sizeOf2
  v2 := Tryz.zeroValue2
  t3 := Tryz.underlying3
  a3 := Tryz.isAgg3
  z3 := Tryz.sizeOf3
  v3 := Tryz.zeroValue3
  t4 := Tryz.underlying4
  a4 := Tryz.isAgg4
  z4 := Tryz.sizeOf4
  v4 := Tryz.zeroValue4
  t5 := Tryz.underlying5
  a5 := Tryz.isAgg5
  z5 := Tryz.sizeOf5
  v5 := Tryz.zeroValue5
  t9 := Tryz.underlying9
  a9 := Tryz.isAgg9
  z9 := Tryz.sizeOf9
  v9 := Tryz.zeroValue9
  t20 := Tryz.underlying20
  a20 := Tryz.isAgg20
  z20 := Tryz.sizeOf20
  v20 := Tryz.zeroValue20
  t37 := Tryz.underlying60
  a37 := Tryz.isAgg60
  z37 := Tryz.sizeOf60
  v37 := Tryz.zeroValue60
  t46 := Tryz.underlying47
  a46 := Tryz.isAgg47
  z46 := Tryz.sizeOf47
  v46 := Tryz.zeroValue47
  t51 := Tryz.underlying88
  a51 := Tryz.isAgg88
  z51 := Tryz.sizeOf88
  v51 := Tryz.zeroValue88
  t53 := Tryz.underlying22
  a53 := Tryz.isAgg22
  z53 := Tryz.sizeOf22
  v53 := Tryz.zeroValue22
  t171 := Tryz.underlying102
  a171 := Tryz.isAgg102
  z171 := Tryz.sizeOf102
  v171 := Tryz.zeroValue102
  t173 := Tryz.underlying104
  a173 := Tryz.isAgg104
  z173 := Tryz.sizeOf104
  v173 := Tryz.zeroValue104
  t212 := Tryz.underlying121
  a212 := Tryz.isAgg121
  z212 := Tryz.sizeOf121
  v212 := Tryz.zeroValue121
  t213 := Tryz.underlying122
  a213 := Tryz.isAgg122
  z213 := Tryz.sizeOf122
  t232 := Tryz.underlying137
  a232 := Tryz.isAgg137
  z232 := Tryz.sizeOf137
  v232 := Tryz.zeroValue137
  t233 := Tryz.underlying138
  a233 := Tryz.isAgg138
  z233 := Tryz.sizeOf138
  v233 := Tryz.zeroValue138
  g17 := by kernel_rfl
  g18 := by kernel_rfl
  g19 := by kernel_rfl
  i0 := by kernel_rfl
  i2 := by kernel_rfl
  i3 := by kernel_rfl
  i4 := by kernel_rfl
  i5 := by kernel_rfl
  i9 := by kernel_rfl
  i20 := by kernel_rfl
  i37 := by kernel_rfl
  i46 := by kernel_rfl
  i51 := by kernel_rfl
  i53 := by kernel_rfl
  i171 := by kernel_rfl
  i173 := by kernel_rfl
  i212 := by kernel_rfl
  i232 := by kernel_rfl
  i233 := by kernel_rfl
  m17 := by kernel_rfl
  m18 := by kernel_rfl
  m19 := by kernel_rfl }
open Go.RowKit Go.Sort Go.Lib in
/-- strconv.Itoa: "Itoa is equivalent to FormatInt(int64(i), 10).": i's DECIMAL NUMERAL ('Lib.itoa': a '-' where i is negative, then the digits), FOR EVERY int. The world behind the call: the world before it, new blocks behind the heap (the library's 'var a [24]byte'), draws. (LAID: no walk: one application.) -/
theorem Tryz.strconv_Itoa (n : Int) (h0 : -9223372036854775808 ≤ n) (h1 : n ≤ 9223372036854775807) (w : World) (htab : Lib.TabIs Tryz.prog w "internal/strconv.uint64pow10" .u64 Lib.pow10Tab) :
    Calls Tryz.prog 40 #[.int .i64 n] w fun e w' => e = .returned (.string ⟨(Lib.itoa n).toArray⟩) ∧ ∃ k os, w' = grow (w.drewN k) os := Any.strconv_Itoa Tryz.laysM171 n h0 h1 w htab
def Tryz.lays171_ren : Go.Shelf.Ren := ⟨fun | 171 => 40 | 243 => 62 | 246 => 73 | 283 => 74 | 284 => 75 | 285 => 76 | 286 => 77 | 129 => 89 | 317 => 88 | 318 => 90 | 319 => 91 | 320 => 92 | 337 => 96 | 338 => 97 | n => n, fun | 3 => 3 | 9 => 9 | 2 => 2 | 4 => 4 | 171 => 102 | 0 => 0 | 53 => 22 | 37 => 60 | 5 => 5 | 173 => 104 | 212 => 121 | 51 => 88 | 20 => 20 | 213 => 122 | 46 => 47 | 232 => 137 | 233 => 138 | n => n, fun | 17 => 0 | 18 => 5 | 19 => 6 | n => n⟩
theorem Tryz.lays171 : Go.Proofs.Lays.n171 Tryz.prog Tryz.lays171_ren := {
  mixed := by kernel_rfl
  f129 := Tryz.func89.trans (congrArg some (by kernel_rfl))
  f171 := Tryz.func40.trans (congrArg some (by kernel_rfl))
  f243 := Tryz.func62.trans (congrArg some (by kernel_rfl))
  f246 := Tryz.func73.trans (congrArg some (by kernel_rfl))
  f283 := Tryz.func74.trans (congrArg some (by kernel_rfl))
  f284 := Tryz.func75.trans (congrArg some (by kernel_rfl))
  f285 := Tryz.func76.trans (congrArg some (by kernel_rfl))
  f286 := Tryz.func77.trans (congrArg some (by kernel_rfl))
  f317 := Tryz.func88.trans (congrArg some (by kernel_rfl))
  f318 := Tryz.func90.trans (congrArg some (by kernel_rfl))
  f319 := Tryz.func91.trans (congrArg some (by kernel_rfl))
  f320 := Tryz.func92.trans (congrArg some (by kernel_rfl))
  f337 := Tryz.func96.trans (congrArg some (by kernel_rfl))
  f338 := Tryz.func97.trans (congrArg some (by kernel_rfl))
  t0 := Tryz.underlying0
  a0 := Tryz.isAgg0
  z0 := Tryz.sizeOf0
  v0 := Tryz.zeroValue0
  t2 := Tryz.underlying2
  a2 := Tryz.isAgg2
  z2 := Tryz.sizeOf2
  v2 := Tryz.zeroValue2
  t3 := Tryz.underlying3
  a3 := Tryz.isAgg3
  z3 := Tryz.sizeOf3
  v3 := Tryz.zeroValue3
  t4 := Tryz.underlying4
  a4 := Tryz.isAgg4
  z4 := Tryz.sizeOf4
  v4 := Tryz.zeroValue4
  t5 := Tryz.underlying5
  a5 := Tryz.isAgg5
  z5 := Tryz.sizeOf5
  v5 := Tryz.zeroValue5
  t9 := Tryz.underlying9
  a9 := Tryz.isAgg9
  z9 := Tryz.sizeOf9
  v9 := Tryz.zeroValue9
  t20 := Tryz.underlying20
  a20 := Tryz.isAgg20
  z20 := Tryz.sizeOf20
  v20 := Tryz.zeroValue20
  t37 := Tryz.underlying60
  a37 := Tryz.isAgg60
  z37 := Tryz.sizeOf60
  v37 := Tryz.zeroValue60
  t46 := Tryz.underlying47
  a46 := Tryz.isAgg47
  z46 := Tryz.sizeOf47
  v46 := Tryz.zeroValue47
  t51 := Tryz.underlying88
  a51 := Tryz.isAgg88
  z51 := Tryz.sizeOf88
  v51 := Tryz.zeroValue88
  t53 := Tryz.underlying22
  a53 := Tryz.isAgg22
  z53 := Tryz.sizeOf22
  v53 := Tryz.zeroValue22
  t171 := Tryz.underlying102
  a171 := Tryz.isAgg102
  z171 := Tryz.sizeOf102
  v171 := Tryz.zeroValue102
  t173 := Tryz.underlying104
  a173 := Tryz.isAgg104
  z173 := Tryz.sizeOf104
  v173 := Tryz.zeroValue104
  t212 := Tryz.underlying121
  a212 := Tryz.isAgg121
  z212 := Tryz.sizeOf121
  v212 := Tryz.zeroValue121
  t213 := Tryz.underlying122
  a213 := Tryz.isAgg122
  z213 := Tryz.sizeOf122
  t232 := Tryz.underlying137
  a232 := Tryz.isAgg137
  z232 := Tryz.sizeOf137
  v232 := Tryz.zeroValue137
  t233 := Tryz.underlying138
  a233 := Tryz.isAgg138
  z233 := Tryz.sizeOf138
  v233 := Tryz.zeroValue138
  g17 := by kernel_rfl
  g18 := by kernel_rfl
  g19 := by kernel_rfl }
open Go.RowKit Go.Sort Go.Lib in
/-- THE ROAD WITHOUT THE TABLE: 0 <= i < 100: NO PREMISE ON THE WORLD, AND THE WORLD IS AS IT WAS: a row that keeps its argument in that range need list no table ('laid = []'). (LAID: no walk: one application.) -/
theorem Tryz.strconv_Itoa_small (i : Nat) (hi : i < 100) (w : World) :
    Calls Tryz.prog 40 #[.int .i64 i] w fun e w' => e = .returned (.string ⟨(Lib.decDigits i).toArray⟩) ∧ w' = w := Any.strconv_Itoa_small Tryz.lays171 i hi w
def Tryz.lays206_ren : Go.Shelf.Ren := ⟨fun | 206 => 80 | n => n, fun | 9 => 9 | 4 => 4 | 3 => 3 | n => n, fun | n => n⟩
theorem Tryz.lays206 : Go.Proofs.Lays.n206 Tryz.prog Tryz.lays206_ren := {
  mixed := by kernel_rfl
  f206 := Tryz.func80.trans (congrArg some (by kernel_rfl))
  t3 := Tryz.underlying3
  a3 := Tryz.isAgg3
  z3 := Tryz.sizeOf3
  v3 := Tryz.zeroValue3
  t4 := Tryz.underlying4
  a4 := Tryz.isAgg4
  z4 := Tryz.sizeOf4
  v4 := Tryz.zeroValue4
  t9 := Tryz.underlying9
  a9 := Tryz.isAgg9
  z9 := Tryz.sizeOf9
  v9 := Tryz.zeroValue9 }
open Go.RowKit Go.Lib in
/-- internal/stringslite.HasPrefix (what strings.HasPrefix calls). (LAID: no walk: one application.) -/
theorem Tryz.stringslite_HasPrefix (s p : ByteArray) (w : World) :
    Calls Tryz.prog 80 #[.string s, .string p] w fun e w' => e = .returned (.bool (Lib.hasPrefix s.data.toList p.data.toList)) ∧ w' = w := Any.stringslite_HasPrefix Tryz.lays206 s p w
def Tryz.lays99_ren : Go.Shelf.Ren := ⟨fun | 99 => 65 | 206 => 80 | n => n, fun | 9 => 9 | 4 => 4 | 3 => 3 | n => n, fun | n => n⟩
theorem Tryz.lays99 : Go.Proofs.Lays.n99 Tryz.prog Tryz.lays99_ren := {
  mixed := by kernel_rfl
  f99 := Tryz.func65.trans (congrArg some (by kernel_rfl))
  f206 := Tryz.func80.trans (congrArg some (by kernel_rfl))
  t3 := Tryz.underlying3
  a3 := Tryz.isAgg3
  z3 := Tryz.sizeOf3
  v3 := Tryz.zeroValue3
  t4 := Tryz.underlying4
  a4 := Tryz.isAgg4
  z4 := Tryz.sizeOf4
  v4 := Tryz.zeroValue4
  t9 := Tryz.underlying9
  a9 := Tryz.isAgg9
  z9 := Tryz.sizeOf9
  v9 := Tryz.zeroValue9 }
open Go.RowKit Go.Lib in
/-- strings.HasPrefix: "HasPrefix reports whether the string s begins with prefix.": IT RETURNS 'Lib.hasPrefix s prefix'; the world is as it was. (LAID: no walk: one application.) -/
theorem Tryz.strings_HasPrefix (s p : ByteArray) (w : World) :
    Calls Tryz.prog 65 #[.string s, .string p] w fun e w' => e = .returned (.bool (Lib.hasPrefix s.data.toList p.data.toList)) ∧ w' = w := Any.strings_HasPrefix Tryz.lays99 s p w
def Tryz.lays203_ren : Go.Shelf.Ren := ⟨fun | 203 => 69 | 262 => 85 | 313 => 95 | 274 => 99 | 275 => 100 | n => n, fun | 21 => 21 | 4 => 4 | 3 => 3 | 162 => 128 | 203 => 126 | 160 => 134 | 46 => 47 | 0 => 0 | 208 => 142 | 51 => 88 | 206 => 140 | n => n, fun | 13 => 1 | n => n⟩
theorem Tryz.lays203 : Go.Proofs.Lays.n203 Tryz.prog Tryz.lays203_ren := {
  mixed := by kernel_rfl
  f203 := Tryz.func69.trans (congrArg some (by kernel_rfl))
  f262 := Tryz.func85.trans (congrArg some (by kernel_rfl))
  f274 := Tryz.func99.trans (congrArg some (by kernel_rfl))
  f275 := Tryz.func100.trans (congrArg some (by kernel_rfl))
  f313 := Tryz.func95.trans (congrArg some (by kernel_rfl))
  t0 := Tryz.underlying0
  a0 := Tryz.isAgg0
  z0 := Tryz.sizeOf0
  v0 := Tryz.zeroValue0
  t3 := Tryz.underlying3
  a3 := Tryz.isAgg3
  z3 := Tryz.sizeOf3
  v3 := Tryz.zeroValue3
  t4 := Tryz.underlying4
  a4 := Tryz.isAgg4
  z4 := Tryz.sizeOf4
  v4 := Tryz.zeroValue4
  t21 := Tryz.underlying21
  a21 := Tryz.isAgg21
  z21 := Tryz.sizeOf21
  v21 := Tryz.zeroValue21
  t46 := Tryz.underlying47
  a46 := Tryz.isAgg47
  z46 := Tryz.sizeOf47
  v46 := Tryz.zeroValue47
  t51 := Tryz.underlying88
  a51 := Tryz.isAgg88
  z51 := Tryz.sizeOf88
  v51 := Tryz.zeroValue88
  t160 := Tryz.underlying134
  a160 := Tryz.isAgg134
  z160 := Tryz.sizeOf134
  v160 := Tryz.zeroValue134
  t162 := Tryz.underlying128
  a162 := Tryz.isAgg128
  z162 := Tryz.sizeOf128
  v162 := Tryz.zeroValue128
  t203 := Tryz.underlying126
  a203 := Tryz.isAgg126
  z203 := Tryz.sizeOf126
  v203 := Tryz.zeroValue126
  t206 := Tryz.underlying140
  a206 := Tryz.isAgg140
  z206 := Tryz.sizeOf140
  v206 := Tryz.zeroValue140
  t208 := Tryz.underlying142
  a208 := Tryz.isAgg142
  z208 := Tryz.sizeOf142
  v208 := Tryz.zeroValue142
  g13 := by kernel_rfl }
open Go.RowKit Go.Lib in
theorem Tryz.unicode_ToUpper (r : Int) (w : World) (h : r ≤ 127) :
    Calls Tryz.prog 69 #[.int .i32 r] w fun e w' => e = .returned (.int .i32 (Lib.toUpperR r)) ∧ w' = w := Any.unicode_ToUpper Tryz.lays203 r w h
def Tryz.lays197_ren : Go.Shelf.Ren := ⟨fun | 197 => 81 | 260 => 93 | n => n, fun | 9 => 9 | 21 => 21 | 3 => 3 | 4 => 4 | 5 => 5 | 105 => 110 | 119 => 130 | 0 => 0 | 46 => 47 | 139 => 133 | 138 => 132 | n => n, fun | 3 => 3 | 4 => 4 | n => n⟩
theorem Tryz.lays197 : Go.Proofs.Lays.n197 Tryz.prog Tryz.lays197_ren := {
  mixed := by kernel_rfl
  f197 := Tryz.func81.trans (congrArg some (by kernel_rfl))
  f260 := Tryz.func93.trans (congrArg some (by kernel_rfl))
  t0 := Tryz.underlying0
  a0 := Tryz.isAgg0
  z0 := Tryz.sizeOf0
  v0 := Tryz.zeroValue0
  t3 := Tryz.underlying3
  a3 := Tryz.isAgg3
  z3 := Tryz.sizeOf3
  v3 := Tryz.zeroValue3
  t4 := Tryz.underlying4
  a4 := Tryz.isAgg4
  z4 := Tryz.sizeOf4
  v4 := Tryz.zeroValue4
  t5 := Tryz.underlying5
  a5 := Tryz.isAgg5
  z5 := Tryz.sizeOf5
  v5 := Tryz.zeroValue5
  t9 := Tryz.underlying9
  a9 := Tryz.isAgg9
  z9 := Tryz.sizeOf9
  v9 := Tryz.zeroValue9
  t21 := Tryz.underlying21
  a21 := Tryz.isAgg21
  z21 := Tryz.sizeOf21
  v21 := Tryz.zeroValue21
  t46 := Tryz.underlying47
  a46 := Tryz.isAgg47
  z46 := Tryz.sizeOf47
  v46 := Tryz.zeroValue47
  t105 := Tryz.underlying110
  a105 := Tryz.isAgg110
  z105 := Tryz.sizeOf110
  v105 := Tryz.zeroValue110
  t119 := Tryz.underlying130
  a119 := Tryz.isAgg130
  z119 := Tryz.sizeOf130
  t138 := Tryz.underlying132
  a138 := Tryz.isAgg132
  z138 := Tryz.sizeOf132
  v138 := Tryz.zeroValue132
  t139 := Tryz.underlying133
  a139 := Tryz.isAgg133
  z139 := Tryz.sizeOf133
  v139 := Tryz.zeroValue133
  g3 := by kernel_rfl
  g4 := by kernel_rfl }
open Go.RowKit Go.Lib in
/-- unicode/utf8.DecodeRuneInString: "DecodeRuneInString is like DecodeRune but its input is a string.": ("DecodeRune unpacks the first UTF-8 encoding in p and returns the rune and its width in bytes."): WHERE s BEGINS WITH AN ASCII BYTE x: (x, 1). (LAID: no walk: one application.) -/
theorem Tryz.utf8_DecodeRuneInString_ascii (s : ByteArray) (x : UInt8) (w : World) (h0 : s.data.toList[0]? = some x) (hx : x.toNat < 128) :
    Calls Tryz.prog 81 #[.string s] w fun e w' => e = .returned (.tuple #[.int .i32 x.toNat, .int .i64 1]) ∧ w' = w := Any.utf8_DecodeRuneInString_ascii Tryz.lays197 s x w h0 hx
def Tryz.lays264_ren : Go.Shelf.Ren := ⟨fun | 264 => 79 | n => n, fun | 53 => 22 | 46 => 47 | n => n, fun | n => n⟩
theorem Tryz.lays264 : Go.Proofs.Lays.n264 Tryz.prog Tryz.lays264_ren := {
  mixed := by kernel_rfl
  f264 := Tryz.func79.trans (congrArg some (by kernel_rfl))
  t46 := Tryz.underlying47
  a46 := Tryz.isAgg47
  z46 := Tryz.sizeOf47
  v46 := Tryz.zeroValue47
  t53 := Tryz.underlying22
  a53 := Tryz.isAgg22
  z53 := Tryz.sizeOf22
  v53 := Tryz.zeroValue22 }
open Go.RowKit Go.Lib in
theorem Tryz.bits_Mul64 (x y : Nat) (hx : x < 18446744073709551616) (hy : y < 18446744073709551616) (w : World) :
    Calls Tryz.prog 79 #[.int .u64 x, .int .u64 y] w fun e w' => e = .returned (.tuple #[.int .u64 ((x * y / 18446744073709551616 : Nat) : Int), .int .u64 ((x * y % 18446744073709551616 : Nat) : Int)]) ∧ w' = w := Any.bits_Mul64 Tryz.lays264 x y hx hy w
def Tryz.lays212_ren : Go.Shelf.Ren := ⟨fun | 212 => 64 | 263 => 78 | 264 => 79 | n => n, fun | 46 => 47 | 51 => 88 | 146 => 106 | 53 => 22 | 148 => 108 | n => n, fun | n => n⟩
theorem Tryz.lays212 : Go.Proofs.Lays.n212 Tryz.prog Tryz.lays212_ren := {
  mixed := by kernel_rfl
  f212 := Tryz.func64.trans (congrArg some (by kernel_rfl))
  f263 := Tryz.func78.trans (congrArg some (by kernel_rfl))
  f264 := Tryz.func79.trans (congrArg some (by kernel_rfl))
  t46 := Tryz.underlying47
  a46 := Tryz.isAgg47
  z46 := Tryz.sizeOf47
  v46 := Tryz.zeroValue47
  t51 := Tryz.underlying88
  a51 := Tryz.isAgg88
  z51 := Tryz.sizeOf88
  v51 := Tryz.zeroValue88
  t53 := Tryz.underlying22
  a53 := Tryz.isAgg22
  z53 := Tryz.sizeOf22
  v53 := Tryz.zeroValue22
  t146 := Tryz.underlying106
  a146 := Tryz.isAgg106
  z146 := Tryz.sizeOf106
  v146 := Tryz.zeroValue106
  t148 := Tryz.underlying108
  a148 := Tryz.isAgg108
  z148 := Tryz.sizeOf108
  v148 := Tryz.zeroValue108 }
open Go.RowKit Go.Lib in
/-- math/bits.Mul: "Mul returns the full-width product of x and y": on a machine of 64 bits: Mul64's. (LAID: no walk: one application.) -/
theorem Tryz.bits_Mul (x y : Nat) (hx : x < 18446744073709551616) (hy : y < 18446744073709551616) (w : World) :
    Calls Tryz.prog 64 #[.int .u64 x, .int .u64 y] w fun e w' => e = .returned (.tuple #[.int .u64 ((x * y / 18446744073709551616 : Nat) : Int), .int .u64 ((x * y % 18446744073709551616 : Nat) : Int)]) ∧ w' = w := Any.bits_Mul Tryz.lays212 x y hx hy w
def Tryz.lays105_ren : Go.Shelf.Ren := ⟨fun | 105 => 42 | 212 => 64 | 99 => 65 | 165 => 44 | 166 => 45 | 170 => 66 | 169 => 46 | 263 => 78 | 264 => 79 | 206 => 80 | 240 => 70 | 241 => 71 | 276 => 86 | 277 => 87 | n => n, fun | 9 => 9 | 3 => 3 | 4 => 4 | 20 => 20 | 0 => 0 | 46 => 47 | 109 => 90 | 5 => 5 | 72 => 76 | 76 => 78 | 51 => 88 | 146 => 106 | 53 => 22 | 148 => 108 | 70 => 74 | 37 => 60 | 75 => 40 | 127 => 97 | 164 => 115 | 80 => 38 | n => n, fun | n => n⟩
theorem Tryz.lays105 : Go.Proofs.Lays.n105 Tryz.prog Tryz.lays105_ren := {
  mixed := by kernel_rfl
  f99 := Tryz.func65.trans (congrArg some (by kernel_rfl))
  f105 := Tryz.func42.trans (congrArg some (by kernel_rfl))
  f165 := Tryz.func44.trans (congrArg some (by kernel_rfl))
  f166 := Tryz.func45.trans (congrArg some (by kernel_rfl))
  f169 := Tryz.func46.trans (congrArg some (by kernel_rfl))
  f170 := Tryz.func66.trans (congrArg some (by kernel_rfl))
  f206 := Tryz.func80.trans (congrArg some (by kernel_rfl))
  f212 := Tryz.func64.trans (congrArg some (by kernel_rfl))
  f240 := Tryz.func70.trans (congrArg some (by kernel_rfl))
  f241 := Tryz.func71.trans (congrArg some (by kernel_rfl))
  f263 := Tryz.func78.trans (congrArg some (by kernel_rfl))
  f264 := Tryz.func79.trans (congrArg some (by kernel_rfl))
  f276 := Tryz.func86.trans (congrArg some (by kernel_rfl))
  f277 := Tryz.func87.trans (congrArg some (by kernel_rfl))
  t0 := Tryz.underlying0
  a0 := Tryz.isAgg0
  z0 := Tryz.sizeOf0
  v0 := Tryz.zeroValue0
  t3 := Tryz.underlying3
  a3 := Tryz.isAgg3
  z3 := Tryz.sizeOf3
  v3 := Tryz.zeroValue3
  t4 := Tryz.underlying4
  a4 := Tryz.isAgg4
  z4 := Tryz.sizeOf4
  v4 := Tryz.zeroValue4
  t5 := Tryz.underlying5
  a5 := Tryz.isAgg5
  z5 := Tryz.sizeOf5
  v5 := Tryz.zeroValue5
  t9 := Tryz.underlying9
  a9 := Tryz.isAgg9
  z9 := Tryz.sizeOf9
  v9 := Tryz.zeroValue9
  t20 := Tryz.underlying20
  a20 := Tryz.isAgg20
  z20 := Tryz.sizeOf20
  v20 := Tryz.zeroValue20
  t37 := Tryz.underlying60
  a37 := Tryz.isAgg60
  z37 := Tryz.sizeOf60
  v37 := Tryz.zeroValue60
  t46 := Tryz.underlying47
  a46 := Tryz.isAgg47
  z46 := Tryz.sizeOf47
  v46 := Tryz.zeroValue47
  t51 := Tryz.underlying88
  a51 := Tryz.isAgg88
  z51 := Tryz.sizeOf88
  v51 := Tryz.zeroValue88
  t53 := Tryz.underlying22
  a53 := Tryz.isAgg22
  z53 := Tryz.sizeOf22
  v53 := Tryz.zeroValue22
  t70 := Tryz.underlying74
  a70 := Tryz.isAgg74
  z70 := Tryz.sizeOf74
  v70 := Tryz.zeroValue74
  t72 := Tryz.underlying76
  a72 := Tryz.isAgg76
  z72 := Tryz.sizeOf76
  v72 := Tryz.zeroValue76
  t75 := Tryz.underlying40
  a75 := Tryz.isAgg40
  z75 := Tryz.sizeOf40
  v75 := Tryz.zeroValue40
  t76 := Tryz.underlying78
  a76 := Tryz.isAgg78
  z76 := Tryz.sizeOf78
  v76 := Tryz.zeroValue78
  t109 := Tryz.underlying90
  a109 := Tryz.isAgg90
  z109 := Tryz.sizeOf90
  v109 := Tryz.zeroValue90
  t127 := Tryz.underlying97
  a127 := Tryz.isAgg97
  z127 := Tryz.sizeOf97
  v127 := Tryz.zeroValue97
  t146 := Tryz.underlying106
  a146 := Tryz.isAgg106
  z146 := Tryz.sizeOf106
  v146 := Tryz.zeroValue106
  t148 := Tryz.underlying108
  a148 := Tryz.isAgg108
  z148 := Tryz.sizeOf108
  v148 := Tryz.zeroValue108
  t164 := Tryz.underlying115
  a164 := Tryz.isAgg115
  z164 := Tryz.sizeOf115
  v164 := Tryz.zeroValue115 }
theorem Tryz.Builder_Extra_105 : Builder.Extra Tryz.prog Tryz.lays105_ren := {
  sizeBuilder := by kernel_rfl
  liesBuilder := by kernel_rfl
  t5 := Tryz.underlying5
  a5 := Tryz.isAgg5
  z5 := Tryz.sizeOf5
  v5 := Tryz.zeroValue5
  infoByte := by kernel_rfl
  cellsByte := by kernel_rfl
  sizeByte := by kernel_rfl
  neB5 := by decide }
open Go.RowKit Go.Lib in
/-- THE MAIN CASE: at least two copies of a string that is not empty. (LAID: no walk: one application.) -/
theorem Tryz.strings_Repeat_main (s : ByteArray) (c : Nat) (w : World) (hc2 : 2 ≤ c) (hc : c ≤ 9223372036854775807) (hlen : s.size * c ≤ 140737488355328) (h0 : 0 < s.size) :
    Calls Tryz.prog 42 #[.string s, .int .i64 c] w fun e w' => e = .returned (.string ⟨(Lib.repeatL s.data.toList c).toArray⟩) ∧ Below w.heap.size w w' := Any.strings_Repeat_main Tryz.lays105 Tryz.Builder_Extra_105 s c w hc2 hc hlen h0
open Go.RowKit Go.Lib in
theorem Tryz.strings_Repeat_zero (s : ByteArray) (w : World) :
    Calls Tryz.prog 42 #[.string s, .int .i64 0] w fun e w' => e = .returned (.string ⟨#[]⟩) ∧ w' = w := Any.strings_Repeat_zero Tryz.lays105 s w
open Go.RowKit Go.Lib in
theorem Tryz.strings_Repeat_one (s : ByteArray) (w : World) :
    Calls Tryz.prog 42 #[.string s, .int .i64 1] w fun e w' => e = .returned (.string s) ∧ w' = w := Any.strings_Repeat_one Tryz.lays105 s w
open Go.RowKit Go.Lib in
/-- Copies of the empty string. (LAID: no walk: one application.) -/
theorem Tryz.strings_Repeat_empty (s : ByteArray) (c : Nat) (w : World) (hc2 : 2 ≤ c) (hc : c ≤ 9223372036854775807) (h0 : s.size = 0) :
    Calls Tryz.prog 42 #[.string s, .int .i64 c] w fun e w' => e = .returned (.string ⟨#[]⟩) ∧ w' = w := Any.strings_Repeat_empty Tryz.lays105 s c w hc2 hc h0
open Go.RowKit Go.Lib in
/-- count < 0: "It panics if count is negative". (LAID: no walk: one application.) -/
theorem Tryz.strings_Repeat_negative (s : ByteArray) (c : Int) (w : World) (hc : c < 0) :
    Calls Tryz.prog 42 #[.string s, .int .i64 c] w fun e w' => e = .panicked [{ v := repeatPanic Tryz.lays105_ren "strings: negative Repeat count", recovered := false }] ∧ w' = w := Any.strings_Repeat_negative Tryz.lays105 s c w hc
open Go.RowKit Go.Lib in
/-- len(s) * count is no int: ".. or if the result of (len(s) * count) overflows". (LAID: no walk: one application.) -/
theorem Tryz.strings_Repeat_overflow (s : ByteArray) (c : Nat) (w : World) (hc : c ≤ 9223372036854775807) (hs : s.size ≤ 9223372036854775807) (hbig : 9223372036854775807 < s.size * c) :
    Calls Tryz.prog 42 #[.string s, .int .i64 c] w fun e w' => e = .panicked [{ v := repeatPanic Tryz.lays105_ren "strings: Repeat output length overflow", recovered := false }] ∧ w' = w := Any.strings_Repeat_overflow Tryz.lays105 s c w hc hs hbig
open Go.RowKit Go.Lib in
/-- **strings.Repeat: count ≥ 0, the result within one allocation: count copies of s.** (LAID: no walk: one application.) -/
theorem Tryz.strings_Repeat (s : ByteArray) (c : Nat) (w : World) (hc : c ≤ 9223372036854775807) (hlen : s.size * c ≤ 140737488355328) :
    Calls Tryz.prog 42 #[.string s, .int .i64 c] w fun e w' => e = .returned (.string ⟨(Lib.repeatL s.data.toList c).toArray⟩) ∧ Below w.heap.size w w' := Any.strings_Repeat Tryz.lays105 Tryz.Builder_Extra_105 s c w hc hlen
def Tryz.lays260_ren : Go.Shelf.Ren := ⟨fun | 260 => 93 | n => n, fun | 9 => 9 | 21 => 21 | 3 => 3 | 4 => 4 | 5 => 5 | 119 => 130 | 0 => 0 | 46 => 47 | 139 => 133 | 138 => 132 | n => n, fun | 3 => 3 | 4 => 4 | n => n⟩
theorem Tryz.lays260 : Go.Proofs.Lays.n260 Tryz.prog Tryz.lays260_ren := {
  mixed := by kernel_rfl
  f260 := Tryz.func93.trans (congrArg some (by kernel_rfl))
  t0 := Tryz.underlying0
  a0 := Tryz.isAgg0
  z0 := Tryz.sizeOf0
  v0 := Tryz.zeroValue0
  t3 := Tryz.underlying3
  a3 := Tryz.isAgg3
  z3 := Tryz.sizeOf3
  v3 := Tryz.zeroValue3
  t4 := Tryz.underlying4
  a4 := Tryz.isAgg4
  z4 := Tryz.sizeOf4
  v4 := Tryz.zeroValue4
  t5 := Tryz.underlying5
  a5 := Tryz.isAgg5
  z5 := Tryz.sizeOf5
  v5 := Tryz.zeroValue5
  t9 := Tryz.underlying9
  a9 := Tryz.isAgg9
  z9 := Tryz.sizeOf9
  v9 := Tryz.zeroValue9
  t21 := Tryz.underlying21
  a21 := Tryz.isAgg21
  z21 := Tryz.sizeOf21
  v21 := Tryz.zeroValue21
  t46 := Tryz.underlying47
  a46 := Tryz.isAgg47
  z46 := Tryz.sizeOf47
  v46 := Tryz.zeroValue47
  t119 := Tryz.underlying130
  a119 := Tryz.isAgg130
  z119 := Tryz.sizeOf130
  t138 := Tryz.underlying132
  a138 := Tryz.isAgg132
  z138 := Tryz.sizeOf132
  v138 := Tryz.zeroValue132
  t139 := Tryz.underlying133
  a139 := Tryz.isAgg133
  z139 := Tryz.sizeOf133
  v139 := Tryz.zeroValue133
  g3 := by kernel_rfl
  g4 := by kernel_rfl }
open Go.RowKit Go.Lib in
theorem Tryz.utf8_decodeRuneInStringSlow (s : ByteArray) (w : World) (hT : Lib.Utf8Tabs 3 4 w) :
    Calls Tryz.prog 93 #[.string s] w fun e w' => e = .returned (.tuple #[.int .i32 (Lib.decodeGo s).1, .int .i64 (Lib.decodeGo s).2]) ∧ Below w.heap.size w w' := Any.utf8_decodeRuneInStringSlow Tryz.lays260 s w hT
open Go.RowKit Go.Lib in
/-- **unicode/utf8.DecodeRuneInString AT EVERY STRING.** (LAID: no walk: one application.) -/
theorem Tryz.utf8_DecodeRuneInString (s : ByteArray) (w : World) (hT : Lib.Utf8Tabs 3 4 w) :
    Calls Tryz.prog 81 #[.string s] w fun e w' => e = .returned (.tuple #[.int .i32 (Lib.decodeGo s).1, .int .i64 (Lib.decodeGo s).2]) ∧ Below w.heap.size w w' := Any.utf8_DecodeRuneInString Tryz.lays197 s w hT
def Tryz.lays274_ren : Go.Shelf.Ren := ⟨fun | 274 => 99 | n => n, fun | 21 => 21 | 162 => 128 | 160 => 134 | 3 => 3 | 4 => 4 | 46 => 47 | 0 => 0 | 208 => 142 | 51 => 88 | 206 => 140 | n => n, fun | n => n⟩
theorem Tryz.lays274 : Go.Proofs.Lays.n274 Tryz.prog Tryz.lays274_ren := {
  mixed := by kernel_rfl
  f274 := Tryz.func99.trans (congrArg some (by kernel_rfl))
  t0 := Tryz.underlying0
  a0 := Tryz.isAgg0
  z0 := Tryz.sizeOf0
  v0 := Tryz.zeroValue0
  t3 := Tryz.underlying3
  a3 := Tryz.isAgg3
  z3 := Tryz.sizeOf3
  v3 := Tryz.zeroValue3
  t4 := Tryz.underlying4
  a4 := Tryz.isAgg4
  z4 := Tryz.sizeOf4
  v4 := Tryz.zeroValue4
  t21 := Tryz.underlying21
  a21 := Tryz.isAgg21
  z21 := Tryz.sizeOf21
  v21 := Tryz.zeroValue21
  t46 := Tryz.underlying47
  a46 := Tryz.isAgg47
  z46 := Tryz.sizeOf47
  v46 := Tryz.zeroValue47
  t51 := Tryz.underlying88
  a51 := Tryz.isAgg88
  z51 := Tryz.sizeOf88
  v51 := Tryz.zeroValue88
  t160 := Tryz.underlying134
  a160 := Tryz.isAgg134
  z160 := Tryz.sizeOf134
  v160 := Tryz.zeroValue134
  t162 := Tryz.underlying128
  a162 := Tryz.isAgg128
  z162 := Tryz.sizeOf128
  v162 := Tryz.zeroValue128
  t208 := Tryz.underlying142
  a208 := Tryz.isAgg142
  z208 := Tryz.sizeOf142
  v208 := Tryz.zeroValue142 }
open Go.RowKit Go.Lib in
theorem Tryz.unicode_lookupCaseRange (T : Array CaseRow) (R oR cap : Nat) (r : Int) (w : World) (hT : CaseTab R oR T w) (hok : CaseOk T) (hn : T.size ≤ 1000000000) :
    Calls Tryz.prog 99 #[.int .i32 r, .slice (some ⟨R, oR, none⟩) T.size cap] w fun e w' =>
      e = .returned (match lookupIdx T r (T.size + 1) 0 T.size with | some i => .pointer (some ⟨R, oR + i * 5, none⟩) | none => .pointer none) ∧ w' = w := Any.unicode_lookupCaseRange Tryz.lays274 T R oR cap r w hT hok hn
def Tryz.lays275_ren : Go.Shelf.Ren := ⟨fun | 275 => 100 | n => n, fun | 3 => 3 | 21 => 21 | 160 => 134 | 0 => 0 | 208 => 142 | 206 => 140 | 4 => 4 | 51 => 88 | n => n, fun | n => n⟩
theorem Tryz.lays275 : Go.Proofs.Lays.n275 Tryz.prog Tryz.lays275_ren := {
  mixed := by kernel_rfl
  f275 := Tryz.func100.trans (congrArg some (by kernel_rfl))
  t0 := Tryz.underlying0
  a0 := Tryz.isAgg0
  z0 := Tryz.sizeOf0
  v0 := Tryz.zeroValue0
  t3 := Tryz.underlying3
  a3 := Tryz.isAgg3
  z3 := Tryz.sizeOf3
  v3 := Tryz.zeroValue3
  t4 := Tryz.underlying4
  a4 := Tryz.isAgg4
  z4 := Tryz.sizeOf4
  v4 := Tryz.zeroValue4
  t21 := Tryz.underlying21
  a21 := Tryz.isAgg21
  z21 := Tryz.sizeOf21
  v21 := Tryz.zeroValue21
  t51 := Tryz.underlying88
  a51 := Tryz.isAgg88
  z51 := Tryz.sizeOf88
  v51 := Tryz.zeroValue88
  t160 := Tryz.underlying134
  a160 := Tryz.isAgg134
  z160 := Tryz.sizeOf134
  v160 := Tryz.zeroValue134
  t206 := Tryz.underlying140
  a206 := Tryz.isAgg140
  z206 := Tryz.sizeOf140
  v206 := Tryz.zeroValue140
  t208 := Tryz.underlying142
  a208 := Tryz.isAgg142
  z208 := Tryz.sizeOf142
  v208 := Tryz.zeroValue142 }
open Go.RowKit Go.Lib in
theorem Tryz.unicode_convertCase (c : Nat) (hc : c < 3) (r : Int) (A o : Nat) (x : CaseRow) (w : World) (hlo : (x.1 : Int) ≤ r) (hhi : r ≤ (x.2.1 : Int)) (hH : x.2.1 < 2147483647) (c0 : w.cell? ⟨A, o, none⟩ = some (.int .u32 x.1)) (cD : w.cell? ⟨A, o + 2 + c, none⟩ = some (.int .i32 (x.delta c))) :
    Calls Tryz.prog 100 #[.int .i64 c, .int .i32 r, .pointer (some ⟨A, o, none⟩)] w fun e w' => e = .returned (.int .i32 (wrap32 (convertR c r x))) ∧ ∃ q, w' = w.drewN q := Any.unicode_convertCase Tryz.lays275 c hc r A o x w hlo hhi hH c0 cD
def Tryz.lays313_ren : Go.Shelf.Ren := ⟨fun | 313 => 95 | 274 => 99 | 275 => 100 | n => n, fun | 3 => 3 | 21 => 21 | 162 => 128 | 4 => 4 | 160 => 134 | 46 => 47 | 0 => 0 | 208 => 142 | 51 => 88 | 206 => 140 | n => n, fun | n => n⟩
theorem Tryz.lays313 : Go.Proofs.Lays.n313 Tryz.prog Tryz.lays313_ren := {
  mixed := by kernel_rfl
  f274 := Tryz.func99.trans (congrArg some (by kernel_rfl))
  f275 := Tryz.func100.trans (congrArg some (by kernel_rfl))
  f313 := Tryz.func95.trans (congrArg some (by kernel_rfl))
  t0 := Tryz.underlying0
  a0 := Tryz.isAgg0
  z0 := Tryz.sizeOf0
  v0 := Tryz.zeroValue0
  t3 := Tryz.underlying3
  a3 := Tryz.isAgg3
  z3 := Tryz.sizeOf3
  v3 := Tryz.zeroValue3
  t4 := Tryz.underlying4
  a4 := Tryz.isAgg4
  z4 := Tryz.sizeOf4
  v4 := Tryz.zeroValue4
  t21 := Tryz.underlying21
  a21 := Tryz.isAgg21
  z21 := Tryz.sizeOf21
  v21 := Tryz.zeroValue21
  t46 := Tryz.underlying47
  a46 := Tryz.isAgg47
  z46 := Tryz.sizeOf47
  v46 := Tryz.zeroValue47
  t51 := Tryz.underlying88
  a51 := Tryz.isAgg88
  z51 := Tryz.sizeOf88
  v51 := Tryz.zeroValue88
  t160 := Tryz.underlying134
  a160 := Tryz.isAgg134
  z160 := Tryz.sizeOf134
  v160 := Tryz.zeroValue134
  t162 := Tryz.underlying128
  a162 := Tryz.isAgg128
  z162 := Tryz.sizeOf128
  v162 := Tryz.zeroValue128
  t206 := Tryz.underlying140
  a206 := Tryz.isAgg140
  z206 := Tryz.sizeOf140
  v206 := Tryz.zeroValue140
  t208 := Tryz.underlying142
  a208 := Tryz.isAgg142
  z208 := Tryz.sizeOf142
  v208 := Tryz.zeroValue142 }
open Go.RowKit Go.Lib in
theorem Tryz.unicode_to (c : Nat) (hc : c < 3) (r : Int) (T : Array CaseRow) (R oR cap : Nat) (w : World) (hT : CaseTab R oR T w) (hok : CaseOk2 T) (hn : T.size ≤ 1000000000) :
    Calls Tryz.prog 95 #[.int .i64 c, .int .i32 r, .slice (some ⟨R, oR, none⟩) T.size cap] w fun e w' => e = .returned (.tuple #[.int .i32 (toW T c r), .bool (lookupIdx T r (T.size + 1) 0 T.size).isSome]) ∧ ∃ q, w' = w.drewN q := Any.unicode_to Tryz.lays313 c hc r T R oR cap w hT hok hn
def Tryz.lays262_ren : Go.Shelf.Ren := ⟨fun | 262 => 85 | 313 => 95 | 274 => 99 | 275 => 100 | n => n, fun | 3 => 3 | 21 => 21 | 162 => 128 | 203 => 126 | 4 => 4 | 160 => 134 | 46 => 47 | 0 => 0 | 208 => 142 | 51 => 88 | 206 => 140 | n => n, fun | 13 => 1 | n => n⟩
theorem Tryz.lays262 : Go.Proofs.Lays.n262 Tryz.prog Tryz.lays262_ren := {
  mixed := by kernel_rfl
  f262 := Tryz.func85.trans (congrArg some (by kernel_rfl))
  f274 := Tryz.func99.trans (congrArg some (by kernel_rfl))
  f275 := Tryz.func100.trans (congrArg some (by kernel_rfl))
  f313 := Tryz.func95.trans (congrArg some (by kernel_rfl))
  t0 := Tryz.underlying0
  a0 := Tryz.isAgg0
  z0 := Tryz.sizeOf0
  v0 := Tryz.zeroValue0
  t3 := Tryz.underlying3
  a3 := Tryz.isAgg3
  z3 := Tryz.sizeOf3
  v3 := Tryz.zeroValue3
  t4 := Tryz.underlying4
  a4 := Tryz.isAgg4
  z4 := Tryz.sizeOf4
  v4 := Tryz.zeroValue4
  t21 := Tryz.underlying21
  a21 := Tryz.isAgg21
  z21 := Tryz.sizeOf21
  v21 := Tryz.zeroValue21
  t46 := Tryz.underlying47
  a46 := Tryz.isAgg47
  z46 := Tryz.sizeOf47
  v46 := Tryz.zeroValue47
  t51 := Tryz.underlying88
  a51 := Tryz.isAgg88
  z51 := Tryz.sizeOf88
  v51 := Tryz.zeroValue88
  t160 := Tryz.underlying134
  a160 := Tryz.isAgg134
  z160 := Tryz.sizeOf134
  v160 := Tryz.zeroValue134
  t162 := Tryz.underlying128
  a162 := Tryz.isAgg128
  z162 := Tryz.sizeOf128
  v162 := Tryz.zeroValue128
  t203 := Tryz.underlying126
  a203 := Tryz.isAgg126
  z203 := Tryz.sizeOf126
  v203 := Tryz.zeroValue126
  t206 := Tryz.underlying140
  a206 := Tryz.isAgg140
  z206 := Tryz.sizeOf140
  v206 := Tryz.zeroValue140
  t208 := Tryz.underlying142
  a208 := Tryz.isAgg142
  z208 := Tryz.sizeOf142
  v208 := Tryz.zeroValue142
  g13 := by kernel_rfl }
open Go.RowKit Go.Lib in
theorem Tryz.unicode_To (c : Nat) (hc : c < 3) (r : Int) (T : Array CaseRow) (w : World) (hV : CaseVar 1 T w) (hok : CaseOk2 T) (hn : T.size ≤ 1000000000) :
    Calls Tryz.prog 85 #[.int .i64 c, .int .i32 r] w fun e w' => e = .returned (.int .i32 (toW T c r)) ∧ ∃ q, w' = w.drewN q := Any.unicode_To Tryz.lays262 c hc r T w hV hok hn
open Go.RowKit Go.Lib in
theorem Tryz.unicode_ToUpper_any (r : Int) (T : Array CaseRow) (w : World) (hV : CaseVar 1 T w) (hok : CaseOk2 T) (hn : T.size ≤ 1000000000) :
    Calls Tryz.prog 69 #[.int .i32 r] w fun e w' => e = .returned (.int .i32 (Lib.toUpperW T r)) ∧ ∃ q, w' = w.drewN q := Any.unicode_ToUpper_any Tryz.lays203 r T w hV hok hn
open Go.RowKit Go.Lib in
theorem Tryz.unicode_ToUpper_laid (r : Int) (w : World) (hV : CaseVar 1 caseA w) :
    Calls Tryz.prog 69 #[.int .i32 r] w fun e w' => e = .returned (.int .i32 (toUpperU r)) ∧ ∃ q, w' = w.drewN q := Any.unicode_ToUpper_laid Tryz.lays203 r w hV
end Go.Proofs
