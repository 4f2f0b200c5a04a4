/-
  DERIVED: THE SHELF's CONTRACTS AT THIS DUMP, IN PLAIN WORDS (tools/lay-plain.mjs out of 'TryzShelf.lean', which tools/lay-shelf.mjs wrote): THE SAME DECLARATIONS UNDER THE SAME NAMES: 'import', 'namespace', 'open', 'def', 'theorem' AND NOTHING ELSE: no command of the shelf's: FOR A HAND-IN. Each laying: the table of numbers ('.._ren') and one theorem, a field a fact of the dump's own or the kernel's comparison; each contract: ONE APPLICATION.
-/
import Derived.Shelf.Strings.Builder1
import Derived.Shelf.Strings.Builder2
import Derived.Shelf.Strings.OnBuilder
import Derived.Shelf.Small.Utf8
import Derived.Shelf.Small.Wraps
import Derived.Shelf.Strings.BuilderF
import Derived.Shelf.Strings.BuilderK
import Derived.Shelf.Strings.BuilderRune
import Derived.Shelf.Utf8.AppendRune
import Derived.Shelf.Strings.Builder2Cap
import Derived.Shelf.Strings.LastIndex
import Derived.Shelf.Strings.LastIndexAll
import Derived.Shelf.Strings.Prefix
import Derived.Shelf.Strings.Fold
import Derived.Shelf.Unicode.Latin
import Derived.Shelf.Unicode.Decode
import Derived.Shelf.Unicode.DecodeSlow
import Derived.Shelf.Unicode.DecodeAny
import Derived.Shelf.Unicode.CaseLookup
import Derived.Shelf.Unicode.CaseConvert
import Derived.Shelf.Unicode.CaseTo
import Derived.Shelf.Unicode.CaseLaid
import Derived.Shelf.Strings.BuilderCap
import Derived.Test.YtbigjdlcmlopcaaGreatDoorProg
namespace Go.Proofs
open Go.Shelf
def Tryz.lays170_ren : Go.Shelf.Ren := ⟨fun | 170 => 73 | n => n, fun | 70 => 79 | 3 => 3 | 0 => 0 | 72 => 81 | 37 => 74 | 5 => 5 | n => n, fun | n => n⟩
theorem Tryz.lays170 : Go.Proofs.Lays.n170 Tryz.prog Tryz.lays170_ren := {
  mixed := by kernel_rfl
  f170 := Tryz.func73.trans (congrArg some (by kernel_rfl))
  t0 := Tryz.underlying0
  a0 := Tryz.isAgg0
  z0 := Tryz.sizeOf0
  v0 := Tryz.zeroValue0
  t3 := Tryz.underlying3
  a3 := Tryz.isAgg3
  z3 := Tryz.sizeOf3
  v3 := Tryz.zeroValue3
  t37 := Tryz.underlying74
  a37 := Tryz.isAgg74
  z37 := Tryz.sizeOf74
  v37 := Tryz.zeroValue74
  t70 := Tryz.underlying79
  a70 := Tryz.isAgg79
  z70 := Tryz.sizeOf79
  v70 := Tryz.zeroValue79
  t72 := Tryz.underlying81
  a72 := Tryz.isAgg81
  z72 := Tryz.sizeOf81
  v72 := Tryz.zeroValue81 }
open Go.RowKit in
/-- (*strings.Builder).Len: "Len returns the number of accumulated bytes; b.Len() == len(b.String()).": the world is as it was. (LAID: no walk: one application.) -/
theorem Tryz.Builder_Len (B b : Nat) (bs : List Value) (w : World) (h : Lib.IsBuilder 81 5 B b bs w) :
    Calls Tryz.prog 73 #[.pointer (some ⟨b, 0, none⟩)] w fun e w' => e = .returned (.int .i64 bs.length) ∧ w' = w := Any.Builder_Len Tryz.lays170 B b bs w h
def Tryz.lays169_ren : Go.Shelf.Ren := ⟨fun | 169 => 42 | n => n, fun | 70 => 79 | 9 => 9 | 0 => 0 | 72 => 81 | 37 => 74 | 127 => 98 | 3 => 3 | 5 => 5 | n => n, fun | n => n⟩
theorem Tryz.lays169 : Go.Proofs.Lays.n169 Tryz.prog Tryz.lays169_ren := {
  mixed := by kernel_rfl
  f169 := Tryz.func42.trans (congrArg some (by kernel_rfl))
  t0 := Tryz.underlying0
  a0 := Tryz.isAgg0
  z0 := Tryz.sizeOf0
  v0 := Tryz.zeroValue0
  t3 := Tryz.underlying3
  a3 := Tryz.isAgg3
  z3 := Tryz.sizeOf3
  v3 := Tryz.zeroValue3
  t9 := Tryz.underlying9
  a9 := Tryz.isAgg9
  z9 := Tryz.sizeOf9
  v9 := Tryz.zeroValue9
  t37 := Tryz.underlying74
  a37 := Tryz.isAgg74
  z37 := Tryz.sizeOf74
  v37 := Tryz.zeroValue74
  t70 := Tryz.underlying79
  a70 := Tryz.isAgg79
  z70 := Tryz.sizeOf79
  v70 := Tryz.zeroValue79
  t72 := Tryz.underlying81
  a72 := Tryz.isAgg81
  z72 := Tryz.sizeOf81
  v72 := Tryz.zeroValue81
  t127 := Tryz.underlying98
  a127 := Tryz.isAgg98
  z127 := Tryz.sizeOf98
  v127 := Tryz.zeroValue98 }
theorem Tryz.Builder_Extra_169 : Builder.Extra Tryz.prog Tryz.lays169_ren := {
  sizeBuilder := by kernel_rfl
  liesBuilder := by kernel_rfl
  t5 := Tryz.underlying5
  a5 := Tryz.isAgg5
  z5 := Tryz.sizeOf5
  v5 := Tryz.zeroValue5
  infoByte := by kernel_rfl
  cellsByte := by kernel_rfl
  sizeByte := by kernel_rfl
  neB5 := by decide }
open Go.RowKit in
/-- (*strings.Builder).String: "String returns the accumulated string.": OF A BUILDER THAT HOLDS AT LEAST ONE BYTE. ✋ THE MODEL FREEZES THOSE BYTES IN THE BUFFER (unsafe.String): a later write INTO them ends the model's run without an answer; a later append BEHIND them goes on. The statement's order of evaluation is drawn: one draw. (LAID: no walk: one application.) -/
theorem Tryz.Builder_String (B b : Nat) (l : List UInt8) (w : World) (h : Lib.IsBuilder 81 5 B b (Lib.byteCells l) w) (h0 : l ≠ []) :
    Calls Tryz.prog 42 #[.pointer (some ⟨b, 0, none⟩)] w fun e w' => e = .returned (.string ⟨l.toArray⟩) ∧ Below B w w' := Any.Builder_String Tryz.lays169 Tryz.Builder_Extra_169 B b l w h h0
open Go.RowKit in
/-- (*strings.Builder).String OF A BUILDER THAT HOLDS NO BYTE: the empty string. (Its buffer is nil, or a row of which it has taken nothing yet; where that row has NO capacity the model lays one new block for unsafe.SliceData's 'some address'.) One draw. (LAID: no walk: one application.) -/
theorem Tryz.Builder_String_empty (B b : Nat) (w : World) (h : Lib.IsBuilder 81 5 B b [] w) (hBw : B ≤ w.heap.size) :
    Calls Tryz.prog 42 #[.pointer (some ⟨b, 0, none⟩)] w fun e w' => e = .returned (.string ⟨#[]⟩) ∧ Below B w w' := Any.Builder_String_empty Tryz.lays169 Tryz.Builder_Extra_169 B b w h hBw
open Go.RowKit in
/-- (*strings.Builder).String: "String returns the accumulated string.": WHATEVER THE BUILDER HOLDS. (LAID: no walk: one application.) -/
theorem Tryz.Builder_String_any (B b : Nat) (l : List UInt8) (w : World) (h : Lib.IsBuilder 81 5 B b (Lib.byteCells l) w) (hBw : B ≤ w.heap.size) :
    Calls Tryz.prog 42 #[.pointer (some ⟨b, 0, none⟩)] w fun e w' => e = .returned (.string ⟨l.toArray⟩) ∧ Below B w w' := Any.Builder_String_any Tryz.lays169 Tryz.Builder_Extra_169 B b l w h hBw
def Tryz.lays241_ren : Go.Shelf.Ren := ⟨fun | 241 => 77 | 277 => 96 | n => n, fun | 70 => 79 | 3 => 3 | 0 => 0 | 72 => 81 | 37 => 74 | 5 => 5 | n => n, fun | n => n⟩
theorem Tryz.lays241 : Go.Proofs.Lays.n241 Tryz.prog Tryz.lays241_ren := {
  mixed := by kernel_rfl
  f241 := Tryz.func77.trans (congrArg some (by kernel_rfl))
  f277 := Tryz.func96.trans (congrArg some (by kernel_rfl))
  t0 := Tryz.underlying0
  a0 := Tryz.isAgg0
  z0 := Tryz.sizeOf0
  v0 := Tryz.zeroValue0
  t3 := Tryz.underlying3
  a3 := Tryz.isAgg3
  z3 := Tryz.sizeOf3
  v3 := Tryz.zeroValue3
  t37 := Tryz.underlying74
  a37 := Tryz.isAgg74
  z37 := Tryz.sizeOf74
  v37 := Tryz.zeroValue74
  t70 := Tryz.underlying79
  a70 := Tryz.isAgg79
  z70 := Tryz.sizeOf79
  v70 := Tryz.zeroValue79
  t72 := Tryz.underlying81
  a72 := Tryz.isAgg81
  z72 := Tryz.sizeOf81
  v72 := Tryz.zeroValue81 }
theorem Tryz.Builder_Extra_241 : Builder.Extra Tryz.prog Tryz.lays241_ren := {
  sizeBuilder := by kernel_rfl
  liesBuilder := by kernel_rfl
  t5 := Tryz.underlying5
  a5 := Tryz.isAgg5
  z5 := Tryz.sizeOf5
  v5 := Tryz.zeroValue5
  infoByte := by kernel_rfl
  cellsByte := by kernel_rfl
  sizeByte := by kernel_rfl
  neB5 := by decide }
open Go.RowKit in
/-- (*strings.Builder).grow (no doc but "grow copies the buffer to a new, larger buffer so that there are at least n bytes of capacity beyond len(b.buf)."): AT A BUILDER WITHOUT A BUFFER: a new row of whatever bytes for its buffer, none of them its own yet. Three draws. (LAID: no walk: one application.) -/
theorem Tryz.Builder_grow_fresh (B b n : Nat) (w : World) (hB : B ≤ b) (hbk : w.heap[b]? = some (.cells #[.pointer (some ⟨b, 0, none⟩), .slice none 0 0] 81 (0, 0))) (hBw : B ≤ w.heap.size) (hn : n ≤ 281474976710656) :
    Calls Tryz.prog 77 #[.pointer (some ⟨b, 0, none⟩), .int .i64 n] w fun e w' => e = .returned (.tuple #[]) ∧ (Lib.BuilderAt 81 5 B b (.pointer (some ⟨b, 0, none⟩)) [] w' ∧ Below B w w') := Any.Builder_grow_fresh Tryz.lays241 Tryz.Builder_Extra_241 B b n w hB hbk hBw hn
def Tryz.lays165_ren : Go.Shelf.Ren := ⟨fun | 165 => 58 | 240 => 56 | 241 => 77 | 276 => 75 | 277 => 96 | n => n, fun | 70 => 79 | 3 => 3 | 0 => 0 | 4 => 4 | 9 => 9 | 20 => 20 | 72 => 81 | 37 => 74 | 164 => 109 | 5 => 5 | n => n, fun | n => n⟩
theorem Tryz.lays165 : Go.Proofs.Lays.n165 Tryz.prog Tryz.lays165_ren := {
  mixed := by kernel_rfl
  f165 := Tryz.func58.trans (congrArg some (by kernel_rfl))
  f240 := Tryz.func56.trans (congrArg some (by kernel_rfl))
  f241 := Tryz.func77.trans (congrArg some (by kernel_rfl))
  f276 := Tryz.func75.trans (congrArg some (by kernel_rfl))
  f277 := Tryz.func96.trans (congrArg some (by kernel_rfl))
  t0 := Tryz.underlying0
  a0 := Tryz.isAgg0
  z0 := Tryz.sizeOf0
  v0 := Tryz.zeroValue0
  t3 := Tryz.underlying3
  a3 := Tryz.isAgg3
  z3 := Tryz.sizeOf3
  v3 := Tryz.zeroValue3
  t4 := Tryz.underlying4
  a4 := Tryz.isAgg4
  z4 := Tryz.sizeOf4
  v4 := Tryz.zeroValue4
  t9 := Tryz.underlying9
  a9 := Tryz.isAgg9
  z9 := Tryz.sizeOf9
  v9 := Tryz.zeroValue9
  t20 := Tryz.underlying20
  a20 := Tryz.isAgg20
  z20 := Tryz.sizeOf20
  v20 := Tryz.zeroValue20
  t37 := Tryz.underlying74
  a37 := Tryz.isAgg74
  z37 := Tryz.sizeOf74
  v37 := Tryz.zeroValue74
  t70 := Tryz.underlying79
  a70 := Tryz.isAgg79
  z70 := Tryz.sizeOf79
  v70 := Tryz.zeroValue79
  t72 := Tryz.underlying81
  a72 := Tryz.isAgg81
  z72 := Tryz.sizeOf81
  v72 := Tryz.zeroValue81
  t164 := Tryz.underlying109
  a164 := Tryz.isAgg109
  z164 := Tryz.sizeOf109
  v164 := Tryz.zeroValue109 }
theorem Tryz.Builder_Extra_165 : Builder.Extra Tryz.prog Tryz.lays165_ren := {
  sizeBuilder := by kernel_rfl
  liesBuilder := by kernel_rfl
  t5 := Tryz.underlying5
  a5 := Tryz.isAgg5
  z5 := Tryz.sizeOf5
  v5 := Tryz.zeroValue5
  infoByte := by kernel_rfl
  cellsByte := by kernel_rfl
  sizeByte := by kernel_rfl
  neB5 := by decide }
open Go.RowKit in
/-- (*strings.Builder).Grow AT A BUILDER THAT HAS NOT BEEN WRITTEN ('var b strings.Builder; b.Grow(n)'): "Grow grows b's capacity, if necessary, to guarantee space for another n bytes.": it holds no byte behind it as before it. (LAID: no walk: one application.) -/
theorem Tryz.Builder_Grow_fresh (B b n : Nat) (w : World) (hB : B ≤ b) (hbk : w.heap[b]? = some (.cells #[.pointer none, .slice none 0 0] 81 (0, 0))) (hBw : B ≤ w.heap.size) (hn : n ≤ 281474976710656) :
    Calls Tryz.prog 58 #[.pointer (some ⟨b, 0, none⟩), .int .i64 n] w fun e w' => e = .returned (.tuple #[]) ∧ (Lib.BuilderAt 81 5 B b (.pointer (some ⟨b, 0, none⟩)) [] w' ∧ Below B w w') := Any.Builder_Grow_fresh Tryz.lays165 Tryz.Builder_Extra_165 B b n w hB hbk hBw hn
def Tryz.lays159_ren : Go.Shelf.Ren := ⟨fun | 159 => 122 | 165 => 58 | 166 => 72 | 167 => 39 | 169 => 42 | 230 => 136 | 204 => 137 | 240 => 56 | 241 => 77 | 197 => 82 | 118 => 148 | 168 => 41 | 270 => 149 | 262 => 150 | 276 => 75 | 277 => 96 | 260 => 99 | 242 => 57 | 313 => 151 | 278 => 76 | 274 => 125 | 275 => 126 | n => n, fun | 9 => 9 | 4 => 4 | 3 => 3 | 5 => 5 | 72 => 81 | 0 => 0 | 76 => 83 | 75 => 43 | 107 => 162 | 70 => 79 | 20 => 20 | 37 => 74 | 127 => 98 | 21 => 21 | 105 => 119 | 164 => 109 | 162 => 180 | 203 => 227 | 119 => 55 | 46 => 48 | 139 => 58 | 138 => 57 | 51 => 94 | 160 => 178 | 208 => 199 | 206 => 197 | 80 => 47 | n => n, fun | 13 => 8 | 3 => 0 | 4 => 1 | n => n⟩
theorem Tryz.lays159 : Go.Proofs.Lays.n159 Tryz.prog Tryz.lays159_ren := {
  mixed := by kernel_rfl
  f118 := Tryz.func148.trans (congrArg some (by kernel_rfl))
  f159 := Tryz.func122.trans (congrArg some (by kernel_rfl))
  f165 := Tryz.func58.trans (congrArg some (by kernel_rfl))
  f166 := Tryz.func72.trans (congrArg some (by kernel_rfl))
  f167 := Tryz.func39.trans (congrArg some (by kernel_rfl))
  f168 := Tryz.func41.trans (congrArg some (by kernel_rfl))
  f169 := Tryz.func42.trans (congrArg some (by kernel_rfl))
  f197 := Tryz.func82.trans (congrArg some (by kernel_rfl))
  f204 := Tryz.func137.trans (congrArg some (by kernel_rfl))
  f230 := Tryz.func136.trans (congrArg some (by kernel_rfl))
  f240 := Tryz.func56.trans (congrArg some (by kernel_rfl))
  f241 := Tryz.func77.trans (congrArg some (by kernel_rfl))
  f242 := Tryz.func57.trans (congrArg some (by kernel_rfl))
  f260 := Tryz.func99.trans (congrArg some (by kernel_rfl))
  f262 := Tryz.func150.trans (congrArg some (by kernel_rfl))
  f270 := Tryz.func149.trans (congrArg some (by kernel_rfl))
  f274 := Tryz.func125.trans (congrArg some (by kernel_rfl))
  f275 := Tryz.func126.trans (congrArg some (by kernel_rfl))
  f276 := Tryz.func75.trans (congrArg some (by kernel_rfl))
  f277 := Tryz.func96.trans (congrArg some (by kernel_rfl))
  f278 := Tryz.func76.trans (congrArg some (by kernel_rfl))
  f313 := Tryz.func151.trans (congrArg some (by kernel_rfl))
  t0 := Tryz.underlying0
  a0 := Tryz.isAgg0
  z0 := Tryz.sizeOf0
  v0 := Tryz.zeroValue0
  t3 := Tryz.underlying3
  a3 := Tryz.isAgg3
  z3 := Tryz.sizeOf3
  v3 := Tryz.zeroValue3
  t4 := Tryz.underlying4
  a4 := Tryz.isAgg4
  z4 := Tryz.sizeOf4
  v4 := Tryz.zeroValue4
  t5 := Tryz.underlying5
  a5 := Tryz.isAgg5
  z5 := Tryz.sizeOf5
  v5 := Tryz.zeroValue5
  t9 := Tryz.underlying9
  a9 := Tryz.isAgg9
  z9 := Tryz.sizeOf9
  v9 := Tryz.zeroValue9
  t20 := Tryz.underlying20
  a20 := Tryz.isAgg20
  z20 := Tryz.sizeOf20
  v20 := Tryz.zeroValue20
  t21 := Tryz.underlying21
  a21 := Tryz.isAgg21
  z21 := Tryz.sizeOf21
  v21 := Tryz.zeroValue21
  t37 := Tryz.underlying74
  a37 := Tryz.isAgg74
  z37 := Tryz.sizeOf74
  v37 := Tryz.zeroValue74
  t46 := Tryz.underlying48
  a46 := Tryz.isAgg48
  z46 := Tryz.sizeOf48
  v46 := Tryz.zeroValue48
  t51 := Tryz.underlying94
  a51 := Tryz.isAgg94
  z51 := Tryz.sizeOf94
  v51 := Tryz.zeroValue94
  t70 := Tryz.underlying79
  a70 := Tryz.isAgg79
  z70 := Tryz.sizeOf79
  v70 := Tryz.zeroValue79
  t72 := Tryz.underlying81
  a72 := Tryz.isAgg81
  z72 := Tryz.sizeOf81
  v72 := Tryz.zeroValue81
  t75 := Tryz.underlying43
  a75 := Tryz.isAgg43
  z75 := Tryz.sizeOf43
  v75 := Tryz.zeroValue43
  t76 := Tryz.underlying83
  a76 := Tryz.isAgg83
  z76 := Tryz.sizeOf83
  v76 := Tryz.zeroValue83
  t105 := Tryz.underlying119
  a105 := Tryz.isAgg119
  z105 := Tryz.sizeOf119
  v105 := Tryz.zeroValue119
  t107 := Tryz.underlying162
  a107 := Tryz.isAgg162
  z107 := Tryz.sizeOf162
  v107 := Tryz.zeroValue162
  t119 := Tryz.underlying55
  a119 := Tryz.isAgg55
  z119 := Tryz.sizeOf55
  t127 := Tryz.underlying98
  a127 := Tryz.isAgg98
  z127 := Tryz.sizeOf98
  v127 := Tryz.zeroValue98
  t138 := Tryz.underlying57
  a138 := Tryz.isAgg57
  z138 := Tryz.sizeOf57
  v138 := Tryz.zeroValue57
  t139 := Tryz.underlying58
  a139 := Tryz.isAgg58
  z139 := Tryz.sizeOf58
  v139 := Tryz.zeroValue58
  t160 := Tryz.underlying178
  a160 := Tryz.isAgg178
  z160 := Tryz.sizeOf178
  v160 := Tryz.zeroValue178
  t162 := Tryz.underlying180
  a162 := Tryz.isAgg180
  z162 := Tryz.sizeOf180
  v162 := Tryz.zeroValue180
  t164 := Tryz.underlying109
  a164 := Tryz.isAgg109
  z164 := Tryz.sizeOf109
  v164 := Tryz.zeroValue109
  t203 := Tryz.underlying227
  a203 := Tryz.isAgg227
  z203 := Tryz.sizeOf227
  v203 := Tryz.zeroValue227
  t206 := Tryz.underlying197
  a206 := Tryz.isAgg197
  z206 := Tryz.sizeOf197
  v206 := Tryz.zeroValue197
  t208 := Tryz.underlying199
  a208 := Tryz.isAgg199
  z208 := Tryz.sizeOf199
  v208 := Tryz.zeroValue199
  g3 := by kernel_rfl
  g4 := by kernel_rfl
  g13 := by kernel_rfl }
theorem Tryz.Builder_Extra_159 : Builder.Extra Tryz.prog Tryz.lays159_ren := {
  sizeBuilder := by kernel_rfl
  liesBuilder := by kernel_rfl
  t5 := Tryz.underlying5
  a5 := Tryz.isAgg5
  z5 := Tryz.sizeOf5
  v5 := Tryz.zeroValue5
  infoByte := by kernel_rfl
  cellsByte := by kernel_rfl
  sizeByte := by kernel_rfl
  neB5 := by decide }
open Go.RowKit in
/-- strings.ToLower: "ToLower returns s with all Unicode letters mapped to their lower case.": ON ASCII TEXT OF AT MOST 2^47 BYTES. Below the heap's end the world is as it was: where a letter turns, the call makes a builder and its buffer. (LAID: no walk: one application.) -/
theorem Tryz.strings_ToLower_ascii (s : ByteArray) (w : World) (hs : s.size ≤ 140737488355328) (hascii : ∀ (j : Nat) (b : UInt8), s.data.toList[j]? = some b → b.toNat < 128) :
    Calls Tryz.prog 122 #[.string s] w fun e w' => e = .returned (.string ⟨(Lib.toLowerA s.data.toList).toArray⟩) ∧ Below w.heap.size w w' := Any.strings_ToLower_ascii Tryz.lays159 Tryz.Builder_Extra_159 s w hs hascii
def Tryz.lays156_ren : Go.Shelf.Ren := ⟨fun | 156 => 71 | 165 => 58 | 166 => 72 | 169 => 42 | 240 => 56 | 241 => 77 | 276 => 75 | 277 => 96 | n => n, fun | 31 => 29 | 9 => 9 | 3 => 3 | 4 => 4 | 0 => 0 | 20 => 20 | 72 => 81 | 76 => 83 | 70 => 79 | 37 => 74 | 75 => 43 | 127 => 98 | 164 => 109 | 5 => 5 | 80 => 47 | n => n, fun | n => n⟩
theorem Tryz.lays156 : Go.Proofs.Lays.n156 Tryz.prog Tryz.lays156_ren := {
  mixed := by kernel_rfl
  f156 := Tryz.func71.trans (congrArg some (by kernel_rfl))
  f165 := Tryz.func58.trans (congrArg some (by kernel_rfl))
  f166 := Tryz.func72.trans (congrArg some (by kernel_rfl))
  f169 := Tryz.func42.trans (congrArg some (by kernel_rfl))
  f240 := Tryz.func56.trans (congrArg some (by kernel_rfl))
  f241 := Tryz.func77.trans (congrArg some (by kernel_rfl))
  f276 := Tryz.func75.trans (congrArg some (by kernel_rfl))
  f277 := Tryz.func96.trans (congrArg some (by kernel_rfl))
  t0 := Tryz.underlying0
  a0 := Tryz.isAgg0
  z0 := Tryz.sizeOf0
  v0 := Tryz.zeroValue0
  t3 := Tryz.underlying3
  a3 := Tryz.isAgg3
  z3 := Tryz.sizeOf3
  v3 := Tryz.zeroValue3
  t4 := Tryz.underlying4
  a4 := Tryz.isAgg4
  z4 := Tryz.sizeOf4
  v4 := Tryz.zeroValue4
  t9 := Tryz.underlying9
  a9 := Tryz.isAgg9
  z9 := Tryz.sizeOf9
  v9 := Tryz.zeroValue9
  t20 := Tryz.underlying20
  a20 := Tryz.isAgg20
  z20 := Tryz.sizeOf20
  v20 := Tryz.zeroValue20
  t31 := Tryz.underlying29
  a31 := Tryz.isAgg29
  z31 := Tryz.sizeOf29
  v31 := Tryz.zeroValue29
  t37 := Tryz.underlying74
  a37 := Tryz.isAgg74
  z37 := Tryz.sizeOf74
  v37 := Tryz.zeroValue74
  t70 := Tryz.underlying79
  a70 := Tryz.isAgg79
  z70 := Tryz.sizeOf79
  v70 := Tryz.zeroValue79
  t72 := Tryz.underlying81
  a72 := Tryz.isAgg81
  z72 := Tryz.sizeOf81
  v72 := Tryz.zeroValue81
  t75 := Tryz.underlying43
  a75 := Tryz.isAgg43
  z75 := Tryz.sizeOf43
  v75 := Tryz.zeroValue43
  t76 := Tryz.underlying83
  a76 := Tryz.isAgg83
  z76 := Tryz.sizeOf83
  v76 := Tryz.zeroValue83
  t127 := Tryz.underlying98
  a127 := Tryz.isAgg98
  z127 := Tryz.sizeOf98
  v127 := Tryz.zeroValue98
  t164 := Tryz.underlying109
  a164 := Tryz.isAgg109
  z164 := Tryz.sizeOf109
  v164 := Tryz.zeroValue109 }
theorem Tryz.Builder_Extra_156 : Builder.Extra Tryz.prog Tryz.lays156_ren := {
  sizeBuilder := by kernel_rfl
  liesBuilder := by kernel_rfl
  t5 := Tryz.underlying5
  a5 := Tryz.isAgg5
  z5 := Tryz.sizeOf5
  v5 := Tryz.zeroValue5
  infoByte := by kernel_rfl
  cellsByte := by kernel_rfl
  sizeByte := by kernel_rfl
  neB5 := by decide }
open Go.RowKit in
/-- No element: the empty string; the world is as it was. (Whatever the slice's address and capacity: a nil slice too.) (LAID: no walk: one application.) -/
theorem Tryz.strings_Join_none (a : Option Addr) (c : Nat) (sep : ByteArray) (w : World) :
    Calls Tryz.prog 71 #[.slice a 0 c, .string sep] w fun e w' => e = .returned (.string ⟨#[]⟩) ∧ w' = w := Any.strings_Join_none Tryz.lays156 Tryz.Builder_Extra_156 a c sep w
open Go.RowKit in
/-- strings.Join: "Join concatenates the elements of its first argument to create a single string. The separator string sep is placed between elements in the resulting string.": HOWEVER MANY ELEMENTS. Below the heap's end the world is as it was. (LAID: no walk: one application.) -/
theorem Tryz.strings_Join (bk o c : Nat) (xs : List ByteArray) (sep : ByteArray) (w : World) (hcells : ∀ (j : Nat) x, xs[j]? = some x → w.cell? ⟨bk, o + j, none⟩ = some (.string x)) (hbk : bk < w.heap.size) (hN : xs.length ≤ 140737488355328) (hcap : xs.length ≤ c) (hlen : (Lib.join (xs.map (·.data.toList)) sep.data.toList).length ≤ 140737488355328) :
    Calls Tryz.prog 71 #[.slice (some ⟨bk, o, none⟩) xs.length c, .string sep] w fun e w' => e = .returned (.string ⟨(Lib.join (xs.map (·.data.toList)) sep.data.toList).toArray⟩) ∧ Below w.heap.size w w' := Any.strings_Join Tryz.lays156 Tryz.Builder_Extra_156 bk o c xs sep w hcells hbk hN hcap hlen
def Tryz.lays118_ren : Go.Shelf.Ren := ⟨fun | 118 => 148 | n => n, fun | 21 => 21 | 3 => 3 | 4 => 4 | n => n, fun | n => n⟩
theorem Tryz.lays118 : Go.Proofs.Lays.n118 Tryz.prog Tryz.lays118_ren := {
  mixed := by kernel_rfl
  f118 := Tryz.func148.trans (congrArg some (by kernel_rfl))
  t3 := Tryz.underlying3
  a3 := Tryz.isAgg3
  z3 := Tryz.sizeOf3
  v3 := Tryz.zeroValue3
  t4 := Tryz.underlying4
  a4 := Tryz.isAgg4
  z4 := Tryz.sizeOf4
  v4 := Tryz.zeroValue4
  t21 := Tryz.underlying21
  a21 := Tryz.isAgg21
  z21 := Tryz.sizeOf21
  v21 := Tryz.zeroValue21 }
/-- utf8.RuneLen: "RuneLen returns the number of bytes in the UTF-8 encoding of the rune. It returns -1 if the rune is not a valid value to encode in UTF-8.": IT RETURNS 'Lib.runeLen r'; the world is as it was. (LAID: no walk: one application.) -/
theorem Tryz.utf8_RuneLen (r : Int) (w : World) :
    Calls Tryz.prog 148 #[.int .i32 r] w fun e w' => e = .returned (.int .i64 (Lib.runeLen r)) ∧ w' = w := Any.utf8_RuneLen Tryz.lays118 r w
def Tryz.lays210_ren : Go.Shelf.Ren := ⟨fun | 210 => 103 | 206 => 100 | n => n, fun | 9 => 9 | 4 => 4 | 3 => 3 | n => n, fun | n => n⟩
theorem Tryz.lays210 : Go.Proofs.Lays.n210 Tryz.prog Tryz.lays210_ren := {
  mixed := by kernel_rfl
  f206 := Tryz.func100.trans (congrArg some (by kernel_rfl))
  f210 := Tryz.func103.trans (congrArg some (by kernel_rfl))
  t3 := Tryz.underlying3
  a3 := Tryz.isAgg3
  z3 := Tryz.sizeOf3
  v3 := Tryz.zeroValue3
  t4 := Tryz.underlying4
  a4 := Tryz.isAgg4
  z4 := Tryz.sizeOf4
  v4 := Tryz.zeroValue4
  t9 := Tryz.underlying9
  a9 := Tryz.isAgg9
  z9 := Tryz.sizeOf9
  v9 := Tryz.zeroValue9 }
open Go.RowKit in
/-- internal/stringslite.CutPrefix (what strings.CutPrefix calls). (LAID: no walk: one application.) -/
theorem Tryz.stringslite_CutPrefix (s p : ByteArray) (w : World) :
    Calls Tryz.prog 103 #[.string s, .string p] w fun e w' => e = .returned (.tuple #[.string ⟨(Lib.trimPrefix s.data.toList p.data.toList).toArray⟩, .bool (Lib.hasPrefix s.data.toList p.data.toList)]) ∧ w' = w := Any.stringslite_CutPrefix Tryz.lays210 s p w
def Tryz.lays103_ren : Go.Shelf.Ren := ⟨fun | 103 => 90 | 210 => 103 | 206 => 100 | n => n, fun | 9 => 9 | 4 => 4 | 24 => 88 | 3 => 3 | n => n, fun | n => n⟩
theorem Tryz.lays103 : Go.Proofs.Lays.n103 Tryz.prog Tryz.lays103_ren := {
  mixed := by kernel_rfl
  f103 := Tryz.func90.trans (congrArg some (by kernel_rfl))
  f206 := Tryz.func100.trans (congrArg some (by kernel_rfl))
  f210 := Tryz.func103.trans (congrArg some (by kernel_rfl))
  t3 := Tryz.underlying3
  a3 := Tryz.isAgg3
  z3 := Tryz.sizeOf3
  v3 := Tryz.zeroValue3
  t4 := Tryz.underlying4
  a4 := Tryz.isAgg4
  z4 := Tryz.sizeOf4
  v4 := Tryz.zeroValue4
  t9 := Tryz.underlying9
  a9 := Tryz.isAgg9
  z9 := Tryz.sizeOf9
  v9 := Tryz.zeroValue9
  t24 := Tryz.underlying88
  a24 := Tryz.isAgg88
  z24 := Tryz.sizeOf88
  v24 := Tryz.zeroValue88 }
open Go.RowKit in
/-- strings.CutPrefix: "CutPrefix returns s without the provided leading prefix string and reports whether it found the prefix. If s doesn't start with prefix, CutPrefix returns s, false. If prefix is the empty string, CutPrefix returns s, true.": IT RETURNS '(Lib.trimPrefix s p, Lib.hasPrefix s p)'; the world is as it was. (LAID: no walk: one application.) -/
theorem Tryz.strings_CutPrefix (s p : ByteArray) (w : World) :
    Calls Tryz.prog 90 #[.string s, .string p] w fun e w' => e = .returned (.tuple #[.string ⟨(Lib.trimPrefix s.data.toList p.data.toList).toArray⟩, .bool (Lib.hasPrefix s.data.toList p.data.toList)]) ∧ w' = w := Any.strings_CutPrefix Tryz.lays103 s p w
open Go.RowKit in
/-- (*strings.Builder).Len: "Len returns the number of accumulated bytes; b.Len() == len(b.String()).": the world is as it was. (THE FORM '_f': 'Lib.IsBuilderF'.) (LAID: no walk: one application.) -/
theorem Tryz.Builder_Len_f (B b : Nat) (bs : List Value) (w : World) (h : Lib.IsBuilderF 81 5 B b bs w) :
    Calls Tryz.prog 73 #[.pointer (some ⟨b, 0, none⟩)] w fun e w' => e = .returned (.int .i64 bs.length) ∧ w' = w := Any.Builder_Len_f Tryz.lays170 B b bs w h
open Go.RowKit in
/-- (*strings.Builder).String: "String returns the accumulated string.": OF A BUILDER THAT HOLDS AT LEAST ONE BYTE. ✋ THE MODEL FREEZES THOSE BYTES IN THE BUFFER (unsafe.String): a later write INTO them ends the model's run without an answer; a later append BEHIND them goes on. The statement's order of evaluation is drawn: one draw. THE FORM '_f': IT SAYS BESIDES THAT THE BUILDER IS A BUILDER STILL ('Lib.IsBuilderF', the same bytes): SO IT CAN BE WRITTEN ON: 'b.WriteString(b.String()[:k])'. (LAID: no walk: one application.) -/
theorem Tryz.Builder_String_f (B b : Nat) (l : List UInt8) (w : World) (h : Lib.IsBuilderF 81 5 B b (Lib.byteCells l) w) (h0 : l ≠ []) :
    Calls Tryz.prog 42 #[.pointer (some ⟨b, 0, none⟩)] w fun e w' => e = .returned (.string ⟨l.toArray⟩) ∧ (Lib.IsBuilderF 81 5 B b (Lib.byteCells l) w' ∧ Below B w w') := Any.Builder_String_f Tryz.lays169 Tryz.Builder_Extra_169 B b l w h h0
open Go.RowKit in
/-- (*strings.Builder).String OF A BUILDER THAT HOLDS NO BYTE: the empty string; THE FORM '_f': a builder still. (LAID: no walk: one application.) -/
theorem Tryz.Builder_String_empty_f (B b : Nat) (w : World) (h : Lib.IsBuilderF 81 5 B b [] w) (hBw : B ≤ w.heap.size) :
    Calls Tryz.prog 42 #[.pointer (some ⟨b, 0, none⟩)] w fun e w' => e = .returned (.string ⟨#[]⟩) ∧ (Lib.IsBuilderF 81 5 B b [] w' ∧ Below B w w') := Any.Builder_String_empty_f Tryz.lays169 Tryz.Builder_Extra_169 B b w h hBw
open Go.RowKit in
/-- (*strings.Builder).String: "String returns the accumulated string.": WHATEVER THE BUILDER HOLDS; THE FORM '_f': OF A BUILDER THAT MAY HAVE BEEN READ BEFORE; AND IT IS A BUILDER STILL, holding the same bytes: it can be written on. (LAID: no walk: one application.) -/
theorem Tryz.Builder_String_any_f (B b : Nat) (l : List UInt8) (w : World) (h : Lib.IsBuilderF 81 5 B b (Lib.byteCells l) w) (hBw : B ≤ w.heap.size) :
    Calls Tryz.prog 42 #[.pointer (some ⟨b, 0, none⟩)] w fun e w' => e = .returned (.string ⟨l.toArray⟩) ∧ (Lib.IsBuilderF 81 5 B b (Lib.byteCells l) w' ∧ Below B w w') := Any.Builder_String_any_f Tryz.lays169 Tryz.Builder_Extra_169 B b l w h hBw
open Go.RowKit in
/-- (*strings.Builder).String: "String returns the accumulated string.": OF A BUILDER THAT HOLDS AT LEAST ONE BYTE. ✋ THE MODEL FREEZES THOSE BYTES IN THE BUFFER (unsafe.String): a later write INTO them ends the model's run without an answer; a later append BEHIND them goes on. The statement's order of evaluation is drawn: one draw. THE FORM '_k': OVER 'Lib.IsBuilderF' (a builder that 'String()' may have read), AND WITH THE FRAME THAT REACHES ABOVE THE BUILDER: 'Lib.OthersKept': every block that is not b and is no row of uint8's stands as it stood: the iterator of a range among them. (LAID: no walk: one application.) -/
theorem Tryz.Builder_String_k (B b : Nat) (l : List UInt8) (w : World) (h : Lib.IsBuilderF 81 5 B b (Lib.byteCells l) w) (h0 : l ≠ []) :
    Calls Tryz.prog 42 #[.pointer (some ⟨b, 0, none⟩)] w fun e w' => e = .returned (.string ⟨l.toArray⟩) ∧ (Lib.IsBuilderF 81 5 B b (Lib.byteCells l) w' ∧ Below B w w' ∧ Lib.OthersKept 5 (some b) w w') := Any.Builder_String_k Tryz.lays169 Tryz.Builder_Extra_169 B b l w h h0
open Go.RowKit in
/-- (*strings.Builder).String OF A BUILDER THAT HOLDS NO BYTE: the empty string; THE FORM '_k': OVER 'Lib.IsBuilderF' (a builder that 'String()' may have read), AND WITH THE FRAME THAT REACHES ABOVE THE BUILDER: 'Lib.OthersKept': every block that is not b and is no row of uint8's stands as it stood: the iterator of a range among them. (LAID: no walk: one application.) -/
theorem Tryz.Builder_String_empty_k (B b : Nat) (w : World) (h : Lib.IsBuilderF 81 5 B b [] w) (hBw : B ≤ w.heap.size) :
    Calls Tryz.prog 42 #[.pointer (some ⟨b, 0, none⟩)] w fun e w' => e = .returned (.string ⟨#[]⟩) ∧ (Lib.IsBuilderF 81 5 B b [] w' ∧ Below B w w' ∧ Lib.OthersKept 5 (some b) w w') := Any.Builder_String_empty_k Tryz.lays169 Tryz.Builder_Extra_169 B b w h hBw
open Go.RowKit in
/-- (*strings.Builder).String: "String returns the accumulated string.": WHATEVER THE BUILDER HOLDS; THE FORM '_k': OVER 'Lib.IsBuilderF' (a builder that 'String()' may have read), AND WITH THE FRAME THAT REACHES ABOVE THE BUILDER: 'Lib.OthersKept': every block that is not b and is no row of uint8's stands as it stood: the iterator of a range among them. (LAID: no walk: one application.) -/
theorem Tryz.Builder_String_any_k (B b : Nat) (l : List UInt8) (w : World) (h : Lib.IsBuilderF 81 5 B b (Lib.byteCells l) w) (hBw : B ≤ w.heap.size) :
    Calls Tryz.prog 42 #[.pointer (some ⟨b, 0, none⟩)] w fun e w' => e = .returned (.string ⟨l.toArray⟩) ∧ (Lib.IsBuilderF 81 5 B b (Lib.byteCells l) w' ∧ Below B w w' ∧ Lib.OthersKept 5 (some b) w w') := Any.Builder_String_any_k Tryz.lays169 Tryz.Builder_Extra_169 B b l w h hBw
def Tryz.lays278_ren : Go.Shelf.Ren := ⟨fun | 278 => 76 | n => n, fun | 37 => 74 | 21 => 21 | 51 => 94 | 4 => 4 | 46 => 48 | 5 => 5 | n => n, fun | n => n⟩
theorem Tryz.lays278 : Go.Proofs.Lays.n278 Tryz.prog Tryz.lays278_ren := {
  mixed := by kernel_rfl
  f278 := Tryz.func76.trans (congrArg some (by kernel_rfl))
  t4 := Tryz.underlying4
  a4 := Tryz.isAgg4
  z4 := Tryz.sizeOf4
  v4 := Tryz.zeroValue4
  t5 := Tryz.underlying5
  a5 := Tryz.isAgg5
  z5 := Tryz.sizeOf5
  v5 := Tryz.zeroValue5
  t21 := Tryz.underlying21
  a21 := Tryz.isAgg21
  z21 := Tryz.sizeOf21
  v21 := Tryz.zeroValue21
  t37 := Tryz.underlying74
  a37 := Tryz.isAgg74
  z37 := Tryz.sizeOf74
  v37 := Tryz.zeroValue74
  t46 := Tryz.underlying48
  a46 := Tryz.isAgg48
  z46 := Tryz.sizeOf48
  v46 := Tryz.zeroValue48
  t51 := Tryz.underlying94
  a51 := Tryz.isAgg94
  z51 := Tryz.sizeOf94
  v51 := Tryz.zeroValue94 }
open Go.RowKit in
/-- unicode/utf8.appendRuneNonASCII (what AppendRune calls for all but ASCII), ONTO A ROW OF BYTES THAT THE CALL OWNS: every int32 that is no ASCII rune: 'Lib.runeCells r' goes in behind what the row holds. (LAID: no walk: one application.) -/
theorem Tryz.utf8_appendRuneNonASCII_row (B : Nat) (v : Value) (n : Nat) (xs : List Value) (r : Int) (hr0 : -2147483648 ≤ r) (hr1 : r ≤ 2147483647) (hna : r < 0 ∨ 128 ≤ r) (w : World) (hown : w.ownsRowF B 5 1 v n xs) (hlen : n + 4 ≤ 140737488355328) (hBw : B ≤ w.heap.size) :
    Calls Tryz.prog 76 #[v, .int .i32 r] w fun e w' => ∃ v', e = .returned v' ∧ w'.ownsRowF B 5 1 v' (n + (Lib.runeCells r).length) (xs ++ Lib.runeCells r) ∧ ∃ o, (w.alloc o).grownBy w' v.ownBlock := Any.utf8_appendRuneNonASCII_row Tryz.lays278 (by kernel_rfl) B v n xs r hr0 hr1 hna w hown hlen hBw
def Tryz.lays242_ren : Go.Shelf.Ren := ⟨fun | 242 => 57 | 278 => 76 | n => n, fun | 37 => 74 | 21 => 21 | 51 => 94 | 4 => 4 | 5 => 5 | 46 => 48 | n => n, fun | n => n⟩
theorem Tryz.lays242 : Go.Proofs.Lays.n242 Tryz.prog Tryz.lays242_ren := {
  mixed := by kernel_rfl
  f242 := Tryz.func57.trans (congrArg some (by kernel_rfl))
  f278 := Tryz.func76.trans (congrArg some (by kernel_rfl))
  t4 := Tryz.underlying4
  a4 := Tryz.isAgg4
  z4 := Tryz.sizeOf4
  v4 := Tryz.zeroValue4
  t5 := Tryz.underlying5
  a5 := Tryz.isAgg5
  z5 := Tryz.sizeOf5
  v5 := Tryz.zeroValue5
  t21 := Tryz.underlying21
  a21 := Tryz.isAgg21
  z21 := Tryz.sizeOf21
  v21 := Tryz.zeroValue21
  t37 := Tryz.underlying74
  a37 := Tryz.isAgg74
  z37 := Tryz.sizeOf74
  v37 := Tryz.zeroValue74
  t46 := Tryz.underlying48
  a46 := Tryz.isAgg48
  z46 := Tryz.sizeOf48
  v46 := Tryz.zeroValue48
  t51 := Tryz.underlying94
  a51 := Tryz.isAgg94
  z51 := Tryz.sizeOf94
  v51 := Tryz.zeroValue94 }
open Go.RowKit in
/-- unicode/utf8.AppendRune: "AppendRune appends the UTF-8 encoding of r to the end of p and returns the extended buffer. If the rune is out of range, it appends the encoding of RuneError.": ONTO A ROW OF BYTES THAT THE CALL OWNS (its head frozen or not): EVERY int32: 'Lib.runeCells r' goes in behind what the row holds; the world: one new block (the bytes as the call's variadic argument), then what 'append' does to the row. (LAID: no walk: one application.) -/
theorem Tryz.utf8_AppendRune_row (B : Nat) (v : Value) (n : Nat) (xs : List Value) (r : Int) (hr0 : -2147483648 ≤ r) (hr1 : r ≤ 2147483647) (w : World) (hown : w.ownsRowF B 5 1 v n xs) (hlen : n + 4 ≤ 140737488355328) (hBw : B ≤ w.heap.size) :
    Calls Tryz.prog 57 #[v, .int .i32 r] w fun e w' => ∃ v', e = .returned v' ∧ w'.ownsRowF B 5 1 v' (n + (Lib.runeCells r).length) (xs ++ Lib.runeCells r) ∧ ∃ o, (w.alloc o).grownBy w' v.ownBlock := Any.utf8_AppendRune_row Tryz.lays242 (by kernel_rfl) B v n xs r hr0 hr1 w hown hlen hBw
open Go.RowKit in
/-- (*strings.Builder).grow (no doc but "grow copies the buffer to a new, larger buffer so that there are at least n bytes of capacity beyond len(b.buf)."): AT A BUILDER WITHOUT A BUFFER: a new row of whatever bytes for its buffer, none of them its own yet. Three draws. (LAID: no walk: one application.) -/
theorem Tryz.Builder_grow_fresh_cap (B b n : Nat) (w : World) (hB : B ≤ b) (hbk : w.heap[b]? = some (.cells #[.pointer (some ⟨b, 0, none⟩), .slice none 0 0] 81 (0, 0))) (hBw : B ≤ w.heap.size) (hn : n ≤ 281474976710656) :
    Calls Tryz.prog 77 #[.pointer (some ⟨b, 0, none⟩), .int .i64 n] w fun e w' => e = .returned (.tuple #[]) ∧ (Lib.BuilderAt 81 5 B b (.pointer (some ⟨b, 0, none⟩)) [] w' ∧ Below B w w') ∧ ∃ p cap, w'.cell? ⟨b, 1, none⟩ = some (.slice p 0 cap) ∧ n ≤ cap := Any.Builder_grow_fresh_cap Tryz.lays241 Tryz.Builder_Extra_241 B b n w hB hbk hBw hn
open Go.RowKit in
/-- (*strings.Builder).Grow AT A BUILDER THAT HAS NOT BEEN WRITTEN ('var b strings.Builder; b.Grow(n)'): "Grow grows b's capacity, if necessary, to guarantee space for another n bytes.": it holds no byte behind it as before it. (LAID: no walk: one application.) -/
theorem Tryz.Builder_Grow_fresh_cap (B b n : Nat) (w : World) (hB : B ≤ b) (hbk : w.heap[b]? = some (.cells #[.pointer none, .slice none 0 0] 81 (0, 0))) (hBw : B ≤ w.heap.size) (hn : n ≤ 281474976710656) :
    Calls Tryz.prog 58 #[.pointer (some ⟨b, 0, none⟩), .int .i64 n] w fun e w' => e = .returned (.tuple #[]) ∧ (Lib.BuilderAt 81 5 B b (.pointer (some ⟨b, 0, none⟩)) [] w' ∧ Below B w w') ∧ ∃ p cap, w'.cell? ⟨b, 1, none⟩ = some (.slice p 0 cap) ∧ n ≤ cap := Any.Builder_Grow_fresh_cap Tryz.lays165 Tryz.Builder_Extra_165 B b n w hB hbk hBw hn
def Tryz.lays222_ren : Go.Shelf.Ren := ⟨fun | 222 => 37 | n => n, fun | 9 => 9 | 5 => 5 | 3 => 3 | 4 => 4 | n => n, fun | n => n⟩
theorem Tryz.lays222 : Go.Proofs.Lays.n222 Tryz.prog Tryz.lays222_ren := {
  mixed := by kernel_rfl
  f222 := Tryz.func37.trans (congrArg some (by kernel_rfl))
  t3 := Tryz.underlying3
  a3 := Tryz.isAgg3
  z3 := Tryz.sizeOf3
  v3 := Tryz.zeroValue3
  t4 := Tryz.underlying4
  a4 := Tryz.isAgg4
  z4 := Tryz.sizeOf4
  v4 := Tryz.zeroValue4
  t5 := Tryz.underlying5
  a5 := Tryz.isAgg5
  z5 := Tryz.sizeOf5
  v5 := Tryz.zeroValue5
  t9 := Tryz.underlying9
  a9 := Tryz.isAgg9
  z9 := Tryz.sizeOf9
  v9 := Tryz.zeroValue9 }
open Go.RowKit Go.Lib in
/-- internal/bytealg.LastIndexByteString: 'for i := len(s) - 1; i >= 0; i-- { if s[i] == c { return i } }; return -1'. (LAID: no walk: one application.) -/
theorem Tryz.bytealg_LastIndexByteString_nm (s : ByteArray) (c : Int) (hs : s.size < 4611686018427387904) (w : World) :
    Calls Tryz.prog 37 #[.string s, .int .u8 c] w fun e w' => e = .returned (.int .i64 (Lib.lastIndexByte s c)) ∧ w' = w := Any.bytealg_LastIndexByteString_nm Tryz.lays222 s c hs w
def Tryz.lays148_ren : Go.Shelf.Ren := ⟨fun | 148 => 24 | 222 => 37 | 223 => 38 | 269 => 55 | n => n, fun | 9 => 9 | 3 => 3 | 4 => 4 | 5 => 5 | 146 => 95 | 51 => 94 | 46 => 48 | n => n, fun | n => n⟩
theorem Tryz.lays148 : Go.Proofs.Lays.n148 Tryz.prog Tryz.lays148_ren := {
  mixed := by kernel_rfl
  f148 := Tryz.func24.trans (congrArg some (by kernel_rfl))
  f222 := Tryz.func37.trans (congrArg some (by kernel_rfl))
  f223 := Tryz.func38.trans (congrArg some (by kernel_rfl))
  f269 := Tryz.func55.trans (congrArg some (by kernel_rfl))
  t3 := Tryz.underlying3
  a3 := Tryz.isAgg3
  z3 := Tryz.sizeOf3
  v3 := Tryz.zeroValue3
  t4 := Tryz.underlying4
  a4 := Tryz.isAgg4
  z4 := Tryz.sizeOf4
  v4 := Tryz.zeroValue4
  t5 := Tryz.underlying5
  a5 := Tryz.isAgg5
  z5 := Tryz.sizeOf5
  v5 := Tryz.zeroValue5
  t9 := Tryz.underlying9
  a9 := Tryz.isAgg9
  z9 := Tryz.sizeOf9
  v9 := Tryz.zeroValue9
  t46 := Tryz.underlying48
  a46 := Tryz.isAgg48
  z46 := Tryz.sizeOf48
  v46 := Tryz.zeroValue48
  t51 := Tryz.underlying94
  a51 := Tryz.isAgg94
  z51 := Tryz.sizeOf94
  v51 := Tryz.zeroValue94
  t146 := Tryz.underlying95
  a146 := Tryz.isAgg95
  z146 := Tryz.sizeOf95
  v146 := Tryz.zeroValue95 }
open Go.RowKit Go.Lib in
/-- strings.LastIndex AT A substr OF ONE BYTE (as in 'strings.LastIndex(path, "/")'): the last place of that byte, or -1. (LAID: no walk: one application.) -/
theorem Tryz.strings_LastIndex_one (s sub : ByteArray) (h1 : sub.size = 1) (hs : s.size < 4611686018427387904) (w : World) :
    Calls Tryz.prog 24 #[.string s, .string sub] w fun e w' => e = .returned (.int .i64 (Lib.lastIndexByte s ((sub[0]'(by omega)).toNat : Int))) ∧ w' = w := Any.strings_LastIndex_one Tryz.lays148 s sub h1 hs w
open Go.RowKit Go.Lib in
/-- .. AT THE EMPTY substr: len(s). (LAID: no walk: one application.) -/
theorem Tryz.strings_LastIndex_empty (s sub : ByteArray) (h0 : sub.size = 0) (w : World) :
    Calls Tryz.prog 24 #[.string s, .string sub] w fun e w' => e = .returned (.int .i64 s.size) ∧ w' = w := Any.strings_LastIndex_empty Tryz.lays148 s sub h0 w
open Go.RowKit Go.Lib in
/-- .. AT A substr LONGER THAN s (and of two bytes or more): -1. (LAID: no walk: one application.) -/
theorem Tryz.strings_LastIndex_longer (s sub : ByteArray) (h2 : 2 ≤ sub.size) (hl : s.size < sub.size) (w : World) :
    Calls Tryz.prog 24 #[.string s, .string sub] w fun e w' => e = .returned (.int .i64 (-1)) ∧ w' = w := Any.strings_LastIndex_longer Tryz.lays148 s sub h2 hl w
open Go.RowKit Go.Lib in
/-- .. AT A substr AS LONG AS s (and of two bytes or more): 0 where the two are one, else -1. (LAID: no walk: one application.) -/
theorem Tryz.strings_LastIndex_whole (s sub : ByteArray) (h2 : 2 ≤ sub.size) (hl : sub.size = s.size) (w : World) :
    Calls Tryz.prog 24 #[.string s, .string sub] w fun e w' => e = .returned (.int .i64 (if sub = s then 0 else -1)) ∧ w' = w := Any.strings_LastIndex_whole Tryz.lays148 s sub h2 hl w
def Tryz.lays269_ren : Go.Shelf.Ren := ⟨fun | 269 => 55 | n => n, fun | 9 => 9 | 51 => 94 | 3 => 3 | 4 => 4 | 5 => 5 | 46 => 48 | n => n, fun | n => n⟩
theorem Tryz.lays269 : Go.Proofs.Lays.n269 Tryz.prog Tryz.lays269_ren := {
  mixed := by kernel_rfl
  f269 := Tryz.func55.trans (congrArg some (by kernel_rfl))
  t3 := Tryz.underlying3
  a3 := Tryz.isAgg3
  z3 := Tryz.sizeOf3
  v3 := Tryz.zeroValue3
  t4 := Tryz.underlying4
  a4 := Tryz.isAgg4
  z4 := Tryz.sizeOf4
  v4 := Tryz.zeroValue4
  t5 := Tryz.underlying5
  a5 := Tryz.isAgg5
  z5 := Tryz.sizeOf5
  v5 := Tryz.zeroValue5
  t9 := Tryz.underlying9
  a9 := Tryz.isAgg9
  z9 := Tryz.sizeOf9
  v9 := Tryz.zeroValue9
  t46 := Tryz.underlying48
  a46 := Tryz.isAgg48
  z46 := Tryz.sizeOf48
  v46 := Tryz.zeroValue48
  t51 := Tryz.underlying94
  a51 := Tryz.isAgg94
  z51 := Tryz.sizeOf94
  v51 := Tryz.zeroValue94 }
open Go.RowKit Go.Lib in
/-- internal/bytealg.hashStrRev: the hash of sep REVERSED, and primeRK ^ len(sep). (LAID: no walk: one application.) -/
theorem Tryz.bytealg_hashStrRev (sep : ByteArray) (hs : sep.size < 4611686018427387904) (w : World) :
    Calls Tryz.prog 55 #[.string sep] w fun e w' => e = .returned (.tuple #[.int .u32 (RK.H sep.data.toList.reverse % 4294967296), .int .u32 (16777619 ^ sep.size % 4294967296)]) ∧ w' = w := Any.bytealg_hashStrRev Tryz.lays269 sep hs w
def Tryz.lays223_ren : Go.Shelf.Ren := ⟨fun | 223 => 38 | 269 => 55 | n => n, fun | 9 => 9 | 3 => 3 | 146 => 95 | 51 => 94 | 4 => 4 | 5 => 5 | 46 => 48 | n => n, fun | n => n⟩
theorem Tryz.lays223 : Go.Proofs.Lays.n223 Tryz.prog Tryz.lays223_ren := {
  mixed := by kernel_rfl
  f223 := Tryz.func38.trans (congrArg some (by kernel_rfl))
  f269 := Tryz.func55.trans (congrArg some (by kernel_rfl))
  t3 := Tryz.underlying3
  a3 := Tryz.isAgg3
  z3 := Tryz.sizeOf3
  v3 := Tryz.zeroValue3
  t4 := Tryz.underlying4
  a4 := Tryz.isAgg4
  z4 := Tryz.sizeOf4
  v4 := Tryz.zeroValue4
  t5 := Tryz.underlying5
  a5 := Tryz.isAgg5
  z5 := Tryz.sizeOf5
  v5 := Tryz.zeroValue5
  t9 := Tryz.underlying9
  a9 := Tryz.isAgg9
  z9 := Tryz.sizeOf9
  v9 := Tryz.zeroValue9
  t46 := Tryz.underlying48
  a46 := Tryz.isAgg48
  z46 := Tryz.sizeOf48
  v46 := Tryz.zeroValue48
  t51 := Tryz.underlying94
  a51 := Tryz.isAgg94
  z51 := Tryz.sizeOf94
  v51 := Tryz.zeroValue94
  t146 := Tryz.underlying95
  a146 := Tryz.isAgg95
  z146 := Tryz.sizeOf95
  v146 := Tryz.zeroValue95 }
open Go.RowKit Go.Lib in
/-- internal/bytealg.LastIndexRabinKarp: "LastIndexRabinKarp uses the Rabin-Karp search algorithm to return the last index of the occurrence of sep in s, or -1 if not present." (LAID: no walk: one application.) -/
theorem Tryz.bytealg_LastIndexRabinKarp (s sep : ByteArray) (h1 : 1 ≤ sep.size) (h2 : sep.size ≤ s.size) (hs : s.size < 4611686018427387904) (w : World) :
    Calls Tryz.prog 38 #[.string s, .string sep] w fun e w' => e = .returned (.int .i64 (Lib.lastIndex s.data.toList sep.data.toList)) ∧ w' = w := Any.bytealg_LastIndexRabinKarp Tryz.lays223 s sep h1 h2 hs w
open Go.RowKit Go.Lib in
/-- strings.LastIndex WHERE THE HASH IS ASKED: 2 bytes or more, shorter than s. (LAID: no walk: one application.) -/
theorem Tryz.strings_LastIndex_hash (s sub : ByteArray) (h2 : 2 ≤ sub.size) (hl : sub.size < s.size) (hs : s.size < 4611686018427387904) (w : World) :
    Calls Tryz.prog 24 #[.string s, .string sub] w fun e w' => e = .returned (.int .i64 (Lib.lastIndex s.data.toList sub.data.toList)) ∧ w' = w := Any.strings_LastIndex_hash Tryz.lays148 s sub h2 hl hs w
open Go.RowKit Go.Lib in
/-- strings.LastIndex: "LastIndex returns the index of the last instance of substr in s, or -1 if substr is not present in s.": AT A substr OF WHATEVER LENGTH. (LAID: no walk: one application.) -/
theorem Tryz.strings_LastIndex (s sub : ByteArray) (hs : s.size < 4611686018427387904) (w : World) :
    Calls Tryz.prog 24 #[.string s, .string sub] w fun e w' => e = .returned (.int .i64 (Lib.lastIndex s.data.toList sub.data.toList)) ∧ w' = w := Any.strings_LastIndex Tryz.lays148 s sub hs w
def Tryz.lays206_ren : Go.Shelf.Ren := ⟨fun | 206 => 100 | n => n, fun | 9 => 9 | 4 => 4 | 3 => 3 | n => n, fun | n => n⟩
theorem Tryz.lays206 : Go.Proofs.Lays.n206 Tryz.prog Tryz.lays206_ren := {
  mixed := by kernel_rfl
  f206 := Tryz.func100.trans (congrArg some (by kernel_rfl))
  t3 := Tryz.underlying3
  a3 := Tryz.isAgg3
  z3 := Tryz.sizeOf3
  v3 := Tryz.zeroValue3
  t4 := Tryz.underlying4
  a4 := Tryz.isAgg4
  z4 := Tryz.sizeOf4
  v4 := Tryz.zeroValue4
  t9 := Tryz.underlying9
  a9 := Tryz.isAgg9
  z9 := Tryz.sizeOf9
  v9 := Tryz.zeroValue9 }
open Go.RowKit Go.Lib in
/-- internal/stringslite.HasPrefix (what strings.HasPrefix calls). (LAID: no walk: one application.) -/
theorem Tryz.stringslite_HasPrefix (s p : ByteArray) (w : World) :
    Calls Tryz.prog 100 #[.string s, .string p] w fun e w' => e = .returned (.bool (Lib.hasPrefix s.data.toList p.data.toList)) ∧ w' = w := Any.stringslite_HasPrefix Tryz.lays206 s p w
def Tryz.lays99_ren : Go.Shelf.Ren := ⟨fun | 99 => 86 | 206 => 100 | n => n, fun | 9 => 9 | 4 => 4 | 3 => 3 | n => n, fun | n => n⟩
theorem Tryz.lays99 : Go.Proofs.Lays.n99 Tryz.prog Tryz.lays99_ren := {
  mixed := by kernel_rfl
  f99 := Tryz.func86.trans (congrArg some (by kernel_rfl))
  f206 := Tryz.func100.trans (congrArg some (by kernel_rfl))
  t3 := Tryz.underlying3
  a3 := Tryz.isAgg3
  z3 := Tryz.sizeOf3
  v3 := Tryz.zeroValue3
  t4 := Tryz.underlying4
  a4 := Tryz.isAgg4
  z4 := Tryz.sizeOf4
  v4 := Tryz.zeroValue4
  t9 := Tryz.underlying9
  a9 := Tryz.isAgg9
  z9 := Tryz.sizeOf9
  v9 := Tryz.zeroValue9 }
open Go.RowKit Go.Lib in
/-- strings.HasPrefix: "HasPrefix reports whether the string s begins with prefix.": IT RETURNS 'Lib.hasPrefix s prefix'; the world is as it was. (LAID: no walk: one application.) -/
theorem Tryz.strings_HasPrefix (s p : ByteArray) (w : World) :
    Calls Tryz.prog 86 #[.string s, .string p] w fun e w' => e = .returned (.bool (Lib.hasPrefix s.data.toList p.data.toList)) ∧ w' = w := Any.strings_HasPrefix Tryz.lays99 s p w
def Tryz.lays207_ren : Go.Shelf.Ren := ⟨fun | 207 => 102 | n => n, fun | 9 => 9 | 4 => 4 | 3 => 3 | n => n, fun | n => n⟩
theorem Tryz.lays207 : Go.Proofs.Lays.n207 Tryz.prog Tryz.lays207_ren := {
  mixed := by kernel_rfl
  f207 := Tryz.func102.trans (congrArg some (by kernel_rfl))
  t3 := Tryz.underlying3
  a3 := Tryz.isAgg3
  z3 := Tryz.sizeOf3
  v3 := Tryz.zeroValue3
  t4 := Tryz.underlying4
  a4 := Tryz.isAgg4
  z4 := Tryz.sizeOf4
  v4 := Tryz.zeroValue4
  t9 := Tryz.underlying9
  a9 := Tryz.isAgg9
  z9 := Tryz.sizeOf9
  v9 := Tryz.zeroValue9 }
open Go.RowKit Go.Lib in
/-- internal/stringslite.HasSuffix (what strings.HasSuffix calls). (LAID: no walk: one application.) -/
theorem Tryz.stringslite_HasSuffix (s p : ByteArray) (w : World) (hs : s.size ≤ 9223372036854775807) :
    Calls Tryz.prog 102 #[.string s, .string p] w fun e w' => e = .returned (.bool (Lib.hasSuffix s.data.toList p.data.toList)) ∧ w' = w := Any.stringslite_HasSuffix Tryz.lays207 s p w hs
def Tryz.lays100_ren : Go.Shelf.Ren := ⟨fun | 100 => 88 | 207 => 102 | n => n, fun | 9 => 9 | 4 => 4 | 3 => 3 | n => n, fun | n => n⟩
theorem Tryz.lays100 : Go.Proofs.Lays.n100 Tryz.prog Tryz.lays100_ren := {
  mixed := by kernel_rfl
  f100 := Tryz.func88.trans (congrArg some (by kernel_rfl))
  f207 := Tryz.func102.trans (congrArg some (by kernel_rfl))
  t3 := Tryz.underlying3
  a3 := Tryz.isAgg3
  z3 := Tryz.sizeOf3
  v3 := Tryz.zeroValue3
  t4 := Tryz.underlying4
  a4 := Tryz.isAgg4
  z4 := Tryz.sizeOf4
  v4 := Tryz.zeroValue4
  t9 := Tryz.underlying9
  a9 := Tryz.isAgg9
  z9 := Tryz.sizeOf9
  v9 := Tryz.zeroValue9 }
open Go.RowKit Go.Lib in
/-- strings.HasSuffix: "HasSuffix reports whether the string s ends with suffix.": IT RETURNS 'Lib.hasSuffix s suffix'; the world is as it was. ('hs': no Go string is longer: a caller has it of every string that it was handed.) (LAID: no walk: one application.) -/
theorem Tryz.strings_HasSuffix (s p : ByteArray) (w : World) (hs : s.size ≤ 9223372036854775807) :
    Calls Tryz.prog 88 #[.string s, .string p] w fun e w' => e = .returned (.bool (Lib.hasSuffix s.data.toList p.data.toList)) ∧ w' = w := Any.strings_HasSuffix Tryz.lays100 s p w hs
def Tryz.lays164_ren : Go.Shelf.Ren := ⟨fun | 164 => 98 | 197 => 82 | 239 => 113 | 260 => 99 | 274 => 125 | 275 => 126 | n => n, fun | 9 => 9 | 4 => 4 | 3 => 3 | 5 => 5 | 0 => 0 | 21 => 21 | 105 => 119 | 156 => 174 | 49 => 173 | 157 => 175 | 46 => 48 | 159 => 177 | 162 => 180 | 160 => 178 | 119 => 55 | 139 => 58 | 138 => 57 | 208 => 199 | 51 => 94 | 206 => 197 | n => n, fun | 11 => 6 | 12 => 7 | 13 => 8 | 3 => 0 | 4 => 1 | n => n⟩
theorem Tryz.lays164 : Go.Proofs.Lays.n164 Tryz.prog Tryz.lays164_ren := {
  mixed := by kernel_rfl
  f164 := Tryz.func98.trans (congrArg some (by kernel_rfl))
  f197 := Tryz.func82.trans (congrArg some (by kernel_rfl))
  f239 := Tryz.func113.trans (congrArg some (by kernel_rfl))
  f260 := Tryz.func99.trans (congrArg some (by kernel_rfl))
  f274 := Tryz.func125.trans (congrArg some (by kernel_rfl))
  f275 := Tryz.func126.trans (congrArg some (by kernel_rfl))
  t0 := Tryz.underlying0
  a0 := Tryz.isAgg0
  z0 := Tryz.sizeOf0
  v0 := Tryz.zeroValue0
  t3 := Tryz.underlying3
  a3 := Tryz.isAgg3
  z3 := Tryz.sizeOf3
  v3 := Tryz.zeroValue3
  t4 := Tryz.underlying4
  a4 := Tryz.isAgg4
  z4 := Tryz.sizeOf4
  v4 := Tryz.zeroValue4
  t5 := Tryz.underlying5
  a5 := Tryz.isAgg5
  z5 := Tryz.sizeOf5
  v5 := Tryz.zeroValue5
  t9 := Tryz.underlying9
  a9 := Tryz.isAgg9
  z9 := Tryz.sizeOf9
  v9 := Tryz.zeroValue9
  t21 := Tryz.underlying21
  a21 := Tryz.isAgg21
  z21 := Tryz.sizeOf21
  v21 := Tryz.zeroValue21
  t46 := Tryz.underlying48
  a46 := Tryz.isAgg48
  z46 := Tryz.sizeOf48
  v46 := Tryz.zeroValue48
  t49 := Tryz.underlying173
  a49 := Tryz.isAgg173
  z49 := Tryz.sizeOf173
  v49 := Tryz.zeroValue173
  t51 := Tryz.underlying94
  a51 := Tryz.isAgg94
  z51 := Tryz.sizeOf94
  v51 := Tryz.zeroValue94
  t105 := Tryz.underlying119
  a105 := Tryz.isAgg119
  z105 := Tryz.sizeOf119
  v105 := Tryz.zeroValue119
  t119 := Tryz.underlying55
  a119 := Tryz.isAgg55
  z119 := Tryz.sizeOf55
  t138 := Tryz.underlying57
  a138 := Tryz.isAgg57
  z138 := Tryz.sizeOf57
  v138 := Tryz.zeroValue57
  t139 := Tryz.underlying58
  a139 := Tryz.isAgg58
  z139 := Tryz.sizeOf58
  v139 := Tryz.zeroValue58
  t156 := Tryz.underlying174
  a156 := Tryz.isAgg174
  z156 := Tryz.sizeOf174
  t157 := Tryz.underlying175
  a157 := Tryz.isAgg175
  z157 := Tryz.sizeOf175
  v157 := Tryz.zeroValue175
  t159 := Tryz.underlying177
  a159 := Tryz.isAgg177
  z159 := Tryz.sizeOf177
  v159 := Tryz.zeroValue177
  t160 := Tryz.underlying178
  a160 := Tryz.isAgg178
  z160 := Tryz.sizeOf178
  v160 := Tryz.zeroValue178
  t162 := Tryz.underlying180
  a162 := Tryz.isAgg180
  z162 := Tryz.sizeOf180
  v162 := Tryz.zeroValue180
  t206 := Tryz.underlying197
  a206 := Tryz.isAgg197
  z206 := Tryz.sizeOf197
  v206 := Tryz.zeroValue197
  t208 := Tryz.underlying199
  a208 := Tryz.isAgg199
  z208 := Tryz.sizeOf199
  v208 := Tryz.zeroValue199
  g3 := by kernel_rfl
  g4 := by kernel_rfl
  g11 := by kernel_rfl
  g12 := by kernel_rfl
  g13 := by kernel_rfl }
open Go.RowKit Go.Lib in
theorem Tryz.strings_EqualFold (s t : ByteArray) (w : World) (hs : s.size < 4294967281) (has : ∀ (j : Nat) b, s.data.toList[j]? = some b → b.toNat < 128) (hat : ∀ (j : Nat) b, t.data.toList[j]? = some b → b.toNat < 128) :
    Calls Tryz.prog 98 #[.string s, .string t] w fun e w' => e = .returned (.bool (Lib.equalFold s.data.toList t.data.toList)) ∧ w' = w := Any.strings_EqualFold Tryz.lays164 s t w hs has hat
def Tryz.lays204_ren : Go.Shelf.Ren := ⟨fun | 204 => 137 | 262 => 150 | 313 => 151 | 274 => 125 | 275 => 126 | n => n, fun | 21 => 21 | 4 => 4 | 3 => 3 | 162 => 180 | 203 => 227 | 160 => 178 | 46 => 48 | 0 => 0 | 208 => 199 | 51 => 94 | 206 => 197 | n => n, fun | 13 => 8 | n => n⟩
theorem Tryz.lays204 : Go.Proofs.Lays.n204 Tryz.prog Tryz.lays204_ren := {
  mixed := by kernel_rfl
  f204 := Tryz.func137.trans (congrArg some (by kernel_rfl))
  f262 := Tryz.func150.trans (congrArg some (by kernel_rfl))
  f274 := Tryz.func125.trans (congrArg some (by kernel_rfl))
  f275 := Tryz.func126.trans (congrArg some (by kernel_rfl))
  f313 := Tryz.func151.trans (congrArg some (by kernel_rfl))
  t0 := Tryz.underlying0
  a0 := Tryz.isAgg0
  z0 := Tryz.sizeOf0
  v0 := Tryz.zeroValue0
  t3 := Tryz.underlying3
  a3 := Tryz.isAgg3
  z3 := Tryz.sizeOf3
  v3 := Tryz.zeroValue3
  t4 := Tryz.underlying4
  a4 := Tryz.isAgg4
  z4 := Tryz.sizeOf4
  v4 := Tryz.zeroValue4
  t21 := Tryz.underlying21
  a21 := Tryz.isAgg21
  z21 := Tryz.sizeOf21
  v21 := Tryz.zeroValue21
  t46 := Tryz.underlying48
  a46 := Tryz.isAgg48
  z46 := Tryz.sizeOf48
  v46 := Tryz.zeroValue48
  t51 := Tryz.underlying94
  a51 := Tryz.isAgg94
  z51 := Tryz.sizeOf94
  v51 := Tryz.zeroValue94
  t160 := Tryz.underlying178
  a160 := Tryz.isAgg178
  z160 := Tryz.sizeOf178
  v160 := Tryz.zeroValue178
  t162 := Tryz.underlying180
  a162 := Tryz.isAgg180
  z162 := Tryz.sizeOf180
  v162 := Tryz.zeroValue180
  t203 := Tryz.underlying227
  a203 := Tryz.isAgg227
  z203 := Tryz.sizeOf227
  v203 := Tryz.zeroValue227
  t206 := Tryz.underlying197
  a206 := Tryz.isAgg197
  z206 := Tryz.sizeOf197
  v206 := Tryz.zeroValue197
  t208 := Tryz.underlying199
  a208 := Tryz.isAgg199
  z208 := Tryz.sizeOf199
  v208 := Tryz.zeroValue199
  g13 := by kernel_rfl }
open Go.RowKit Go.Lib in
theorem Tryz.unicode_ToLower (r : Int) (w : World) (h : r ≤ 127) :
    Calls Tryz.prog 137 #[.int .i32 r] w fun e w' => e = .returned (.int .i32 (Lib.toLowerR r)) ∧ w' = w := Any.unicode_ToLower Tryz.lays204 r w h
def Tryz.lays197_ren : Go.Shelf.Ren := ⟨fun | 197 => 82 | 260 => 99 | n => n, fun | 9 => 9 | 21 => 21 | 3 => 3 | 4 => 4 | 5 => 5 | 105 => 119 | 119 => 55 | 0 => 0 | 46 => 48 | 139 => 58 | 138 => 57 | n => n, fun | 3 => 0 | 4 => 1 | n => n⟩
theorem Tryz.lays197 : Go.Proofs.Lays.n197 Tryz.prog Tryz.lays197_ren := {
  mixed := by kernel_rfl
  f197 := Tryz.func82.trans (congrArg some (by kernel_rfl))
  f260 := Tryz.func99.trans (congrArg some (by kernel_rfl))
  t0 := Tryz.underlying0
  a0 := Tryz.isAgg0
  z0 := Tryz.sizeOf0
  v0 := Tryz.zeroValue0
  t3 := Tryz.underlying3
  a3 := Tryz.isAgg3
  z3 := Tryz.sizeOf3
  v3 := Tryz.zeroValue3
  t4 := Tryz.underlying4
  a4 := Tryz.isAgg4
  z4 := Tryz.sizeOf4
  v4 := Tryz.zeroValue4
  t5 := Tryz.underlying5
  a5 := Tryz.isAgg5
  z5 := Tryz.sizeOf5
  v5 := Tryz.zeroValue5
  t9 := Tryz.underlying9
  a9 := Tryz.isAgg9
  z9 := Tryz.sizeOf9
  v9 := Tryz.zeroValue9
  t21 := Tryz.underlying21
  a21 := Tryz.isAgg21
  z21 := Tryz.sizeOf21
  v21 := Tryz.zeroValue21
  t46 := Tryz.underlying48
  a46 := Tryz.isAgg48
  z46 := Tryz.sizeOf48
  v46 := Tryz.zeroValue48
  t105 := Tryz.underlying119
  a105 := Tryz.isAgg119
  z105 := Tryz.sizeOf119
  v105 := Tryz.zeroValue119
  t119 := Tryz.underlying55
  a119 := Tryz.isAgg55
  z119 := Tryz.sizeOf55
  t138 := Tryz.underlying57
  a138 := Tryz.isAgg57
  z138 := Tryz.sizeOf57
  v138 := Tryz.zeroValue57
  t139 := Tryz.underlying58
  a139 := Tryz.isAgg58
  z139 := Tryz.sizeOf58
  v139 := Tryz.zeroValue58
  g3 := by kernel_rfl
  g4 := by kernel_rfl }
open Go.RowKit Go.Lib in
/-- unicode/utf8.DecodeRuneInString: "DecodeRuneInString is like DecodeRune but its input is a string.": ("DecodeRune unpacks the first UTF-8 encoding in p and returns the rune and its width in bytes."): WHERE s BEGINS WITH AN ASCII BYTE x: (x, 1). (LAID: no walk: one application.) -/
theorem Tryz.utf8_DecodeRuneInString_ascii (s : ByteArray) (x : UInt8) (w : World) (h0 : s.data.toList[0]? = some x) (hx : x.toNat < 128) :
    Calls Tryz.prog 82 #[.string s] w fun e w' => e = .returned (.tuple #[.int .i32 x.toNat, .int .i64 1]) ∧ w' = w := Any.utf8_DecodeRuneInString_ascii Tryz.lays197 s x w h0 hx
def Tryz.lays260_ren : Go.Shelf.Ren := ⟨fun | 260 => 99 | n => n, fun | 9 => 9 | 21 => 21 | 3 => 3 | 4 => 4 | 5 => 5 | 119 => 55 | 0 => 0 | 46 => 48 | 139 => 58 | 138 => 57 | n => n, fun | 3 => 0 | 4 => 1 | n => n⟩
theorem Tryz.lays260 : Go.Proofs.Lays.n260 Tryz.prog Tryz.lays260_ren := {
  mixed := by kernel_rfl
  f260 := Tryz.func99.trans (congrArg some (by kernel_rfl))
  t0 := Tryz.underlying0
  a0 := Tryz.isAgg0
  z0 := Tryz.sizeOf0
  v0 := Tryz.zeroValue0
  t3 := Tryz.underlying3
  a3 := Tryz.isAgg3
  z3 := Tryz.sizeOf3
  v3 := Tryz.zeroValue3
  t4 := Tryz.underlying4
  a4 := Tryz.isAgg4
  z4 := Tryz.sizeOf4
  v4 := Tryz.zeroValue4
  t5 := Tryz.underlying5
  a5 := Tryz.isAgg5
  z5 := Tryz.sizeOf5
  v5 := Tryz.zeroValue5
  t9 := Tryz.underlying9
  a9 := Tryz.isAgg9
  z9 := Tryz.sizeOf9
  v9 := Tryz.zeroValue9
  t21 := Tryz.underlying21
  a21 := Tryz.isAgg21
  z21 := Tryz.sizeOf21
  v21 := Tryz.zeroValue21
  t46 := Tryz.underlying48
  a46 := Tryz.isAgg48
  z46 := Tryz.sizeOf48
  v46 := Tryz.zeroValue48
  t119 := Tryz.underlying55
  a119 := Tryz.isAgg55
  z119 := Tryz.sizeOf55
  t138 := Tryz.underlying57
  a138 := Tryz.isAgg57
  z138 := Tryz.sizeOf57
  v138 := Tryz.zeroValue57
  t139 := Tryz.underlying58
  a139 := Tryz.isAgg58
  z139 := Tryz.sizeOf58
  v139 := Tryz.zeroValue58
  g3 := by kernel_rfl
  g4 := by kernel_rfl }
open Go.RowKit Go.Lib in
theorem Tryz.utf8_decodeRuneInStringSlow (s : ByteArray) (w : World) (hT : Lib.Utf8Tabs 0 1 w) :
    Calls Tryz.prog 99 #[.string s] w fun e w' => e = .returned (.tuple #[.int .i32 (Lib.decodeGo s).1, .int .i64 (Lib.decodeGo s).2]) ∧ Below w.heap.size w w' := Any.utf8_decodeRuneInStringSlow Tryz.lays260 s w hT
open Go.RowKit Go.Lib in
/-- **unicode/utf8.DecodeRuneInString AT EVERY STRING.** (LAID: no walk: one application.) -/
theorem Tryz.utf8_DecodeRuneInString (s : ByteArray) (w : World) (hT : Lib.Utf8Tabs 0 1 w) :
    Calls Tryz.prog 82 #[.string s] w fun e w' => e = .returned (.tuple #[.int .i32 (Lib.decodeGo s).1, .int .i64 (Lib.decodeGo s).2]) ∧ Below w.heap.size w w' := Any.utf8_DecodeRuneInString Tryz.lays197 s w hT
def Tryz.lays274_ren : Go.Shelf.Ren := ⟨fun | 274 => 125 | n => n, fun | 21 => 21 | 162 => 180 | 160 => 178 | 3 => 3 | 4 => 4 | 46 => 48 | 0 => 0 | 208 => 199 | 51 => 94 | 206 => 197 | n => n, fun | n => n⟩
theorem Tryz.lays274 : Go.Proofs.Lays.n274 Tryz.prog Tryz.lays274_ren := {
  mixed := by kernel_rfl
  f274 := Tryz.func125.trans (congrArg some (by kernel_rfl))
  t0 := Tryz.underlying0
  a0 := Tryz.isAgg0
  z0 := Tryz.sizeOf0
  v0 := Tryz.zeroValue0
  t3 := Tryz.underlying3
  a3 := Tryz.isAgg3
  z3 := Tryz.sizeOf3
  v3 := Tryz.zeroValue3
  t4 := Tryz.underlying4
  a4 := Tryz.isAgg4
  z4 := Tryz.sizeOf4
  v4 := Tryz.zeroValue4
  t21 := Tryz.underlying21
  a21 := Tryz.isAgg21
  z21 := Tryz.sizeOf21
  v21 := Tryz.zeroValue21
  t46 := Tryz.underlying48
  a46 := Tryz.isAgg48
  z46 := Tryz.sizeOf48
  v46 := Tryz.zeroValue48
  t51 := Tryz.underlying94
  a51 := Tryz.isAgg94
  z51 := Tryz.sizeOf94
  v51 := Tryz.zeroValue94
  t160 := Tryz.underlying178
  a160 := Tryz.isAgg178
  z160 := Tryz.sizeOf178
  v160 := Tryz.zeroValue178
  t162 := Tryz.underlying180
  a162 := Tryz.isAgg180
  z162 := Tryz.sizeOf180
  v162 := Tryz.zeroValue180
  t208 := Tryz.underlying199
  a208 := Tryz.isAgg199
  z208 := Tryz.sizeOf199
  v208 := Tryz.zeroValue199 }
open Go.RowKit Go.Lib in
theorem Tryz.unicode_lookupCaseRange (T : Array CaseRow) (R oR cap : Nat) (r : Int) (w : World) (hT : CaseTab R oR T w) (hok : CaseOk T) (hn : T.size ≤ 1000000000) :
    Calls Tryz.prog 125 #[.int .i32 r, .slice (some ⟨R, oR, none⟩) T.size cap] w fun e w' =>
      e = .returned (match lookupIdx T r (T.size + 1) 0 T.size with | some i => .pointer (some ⟨R, oR + i * 5, none⟩) | none => .pointer none) ∧ w' = w := Any.unicode_lookupCaseRange Tryz.lays274 T R oR cap r w hT hok hn
def Tryz.lays275_ren : Go.Shelf.Ren := ⟨fun | 275 => 126 | n => n, fun | 3 => 3 | 21 => 21 | 160 => 178 | 0 => 0 | 208 => 199 | 206 => 197 | 4 => 4 | 51 => 94 | n => n, fun | n => n⟩
theorem Tryz.lays275 : Go.Proofs.Lays.n275 Tryz.prog Tryz.lays275_ren := {
  mixed := by kernel_rfl
  f275 := Tryz.func126.trans (congrArg some (by kernel_rfl))
  t0 := Tryz.underlying0
  a0 := Tryz.isAgg0
  z0 := Tryz.sizeOf0
  v0 := Tryz.zeroValue0
  t3 := Tryz.underlying3
  a3 := Tryz.isAgg3
  z3 := Tryz.sizeOf3
  v3 := Tryz.zeroValue3
  t4 := Tryz.underlying4
  a4 := Tryz.isAgg4
  z4 := Tryz.sizeOf4
  v4 := Tryz.zeroValue4
  t21 := Tryz.underlying21
  a21 := Tryz.isAgg21
  z21 := Tryz.sizeOf21
  v21 := Tryz.zeroValue21
  t51 := Tryz.underlying94
  a51 := Tryz.isAgg94
  z51 := Tryz.sizeOf94
  v51 := Tryz.zeroValue94
  t160 := Tryz.underlying178
  a160 := Tryz.isAgg178
  z160 := Tryz.sizeOf178
  v160 := Tryz.zeroValue178
  t206 := Tryz.underlying197
  a206 := Tryz.isAgg197
  z206 := Tryz.sizeOf197
  v206 := Tryz.zeroValue197
  t208 := Tryz.underlying199
  a208 := Tryz.isAgg199
  z208 := Tryz.sizeOf199
  v208 := Tryz.zeroValue199 }
open Go.RowKit Go.Lib in
theorem Tryz.unicode_convertCase (c : Nat) (hc : c < 3) (r : Int) (A o : Nat) (x : CaseRow) (w : World) (hlo : (x.1 : Int) ≤ r) (hhi : r ≤ (x.2.1 : Int)) (hH : x.2.1 < 2147483647) (c0 : w.cell? ⟨A, o, none⟩ = some (.int .u32 x.1)) (cD : w.cell? ⟨A, o + 2 + c, none⟩ = some (.int .i32 (x.delta c))) :
    Calls Tryz.prog 126 #[.int .i64 c, .int .i32 r, .pointer (some ⟨A, o, none⟩)] w fun e w' => e = .returned (.int .i32 (wrap32 (convertR c r x))) ∧ ∃ q, w' = w.drewN q := Any.unicode_convertCase Tryz.lays275 c hc r A o x w hlo hhi hH c0 cD
def Tryz.lays313_ren : Go.Shelf.Ren := ⟨fun | 313 => 151 | 274 => 125 | 275 => 126 | n => n, fun | 3 => 3 | 21 => 21 | 162 => 180 | 4 => 4 | 160 => 178 | 46 => 48 | 0 => 0 | 208 => 199 | 51 => 94 | 206 => 197 | n => n, fun | n => n⟩
theorem Tryz.lays313 : Go.Proofs.Lays.n313 Tryz.prog Tryz.lays313_ren := {
  mixed := by kernel_rfl
  f274 := Tryz.func125.trans (congrArg some (by kernel_rfl))
  f275 := Tryz.func126.trans (congrArg some (by kernel_rfl))
  f313 := Tryz.func151.trans (congrArg some (by kernel_rfl))
  t0 := Tryz.underlying0
  a0 := Tryz.isAgg0
  z0 := Tryz.sizeOf0
  v0 := Tryz.zeroValue0
  t3 := Tryz.underlying3
  a3 := Tryz.isAgg3
  z3 := Tryz.sizeOf3
  v3 := Tryz.zeroValue3
  t4 := Tryz.underlying4
  a4 := Tryz.isAgg4
  z4 := Tryz.sizeOf4
  v4 := Tryz.zeroValue4
  t21 := Tryz.underlying21
  a21 := Tryz.isAgg21
  z21 := Tryz.sizeOf21
  v21 := Tryz.zeroValue21
  t46 := Tryz.underlying48
  a46 := Tryz.isAgg48
  z46 := Tryz.sizeOf48
  v46 := Tryz.zeroValue48
  t51 := Tryz.underlying94
  a51 := Tryz.isAgg94
  z51 := Tryz.sizeOf94
  v51 := Tryz.zeroValue94
  t160 := Tryz.underlying178
  a160 := Tryz.isAgg178
  z160 := Tryz.sizeOf178
  v160 := Tryz.zeroValue178
  t162 := Tryz.underlying180
  a162 := Tryz.isAgg180
  z162 := Tryz.sizeOf180
  v162 := Tryz.zeroValue180
  t206 := Tryz.underlying197
  a206 := Tryz.isAgg197
  z206 := Tryz.sizeOf197
  v206 := Tryz.zeroValue197
  t208 := Tryz.underlying199
  a208 := Tryz.isAgg199
  z208 := Tryz.sizeOf199
  v208 := Tryz.zeroValue199 }
open Go.RowKit Go.Lib in
theorem Tryz.unicode_to (c : Nat) (hc : c < 3) (r : Int) (T : Array CaseRow) (R oR cap : Nat) (w : World) (hT : CaseTab R oR T w) (hok : CaseOk2 T) (hn : T.size ≤ 1000000000) :
    Calls Tryz.prog 151 #[.int .i64 c, .int .i32 r, .slice (some ⟨R, oR, none⟩) T.size cap] w fun e w' => e = .returned (.tuple #[.int .i32 (toW T c r), .bool (lookupIdx T r (T.size + 1) 0 T.size).isSome]) ∧ ∃ q, w' = w.drewN q := Any.unicode_to Tryz.lays313 c hc r T R oR cap w hT hok hn
def Tryz.lays262_ren : Go.Shelf.Ren := ⟨fun | 262 => 150 | 313 => 151 | 274 => 125 | 275 => 126 | n => n, fun | 3 => 3 | 21 => 21 | 162 => 180 | 203 => 227 | 4 => 4 | 160 => 178 | 46 => 48 | 0 => 0 | 208 => 199 | 51 => 94 | 206 => 197 | n => n, fun | 13 => 8 | n => n⟩
theorem Tryz.lays262 : Go.Proofs.Lays.n262 Tryz.prog Tryz.lays262_ren := {
  mixed := by kernel_rfl
  f262 := Tryz.func150.trans (congrArg some (by kernel_rfl))
  f274 := Tryz.func125.trans (congrArg some (by kernel_rfl))
  f275 := Tryz.func126.trans (congrArg some (by kernel_rfl))
  f313 := Tryz.func151.trans (congrArg some (by kernel_rfl))
  t0 := Tryz.underlying0
  a0 := Tryz.isAgg0
  z0 := Tryz.sizeOf0
  v0 := Tryz.zeroValue0
  t3 := Tryz.underlying3
  a3 := Tryz.isAgg3
  z3 := Tryz.sizeOf3
  v3 := Tryz.zeroValue3
  t4 := Tryz.underlying4
  a4 := Tryz.isAgg4
  z4 := Tryz.sizeOf4
  v4 := Tryz.zeroValue4
  t21 := Tryz.underlying21
  a21 := Tryz.isAgg21
  z21 := Tryz.sizeOf21
  v21 := Tryz.zeroValue21
  t46 := Tryz.underlying48
  a46 := Tryz.isAgg48
  z46 := Tryz.sizeOf48
  v46 := Tryz.zeroValue48
  t51 := Tryz.underlying94
  a51 := Tryz.isAgg94
  z51 := Tryz.sizeOf94
  v51 := Tryz.zeroValue94
  t160 := Tryz.underlying178
  a160 := Tryz.isAgg178
  z160 := Tryz.sizeOf178
  v160 := Tryz.zeroValue178
  t162 := Tryz.underlying180
  a162 := Tryz.isAgg180
  z162 := Tryz.sizeOf180
  v162 := Tryz.zeroValue180
  t203 := Tryz.underlying227
  a203 := Tryz.isAgg227
  z203 := Tryz.sizeOf227
  v203 := Tryz.zeroValue227
  t206 := Tryz.underlying197
  a206 := Tryz.isAgg197
  z206 := Tryz.sizeOf197
  v206 := Tryz.zeroValue197
  t208 := Tryz.underlying199
  a208 := Tryz.isAgg199
  z208 := Tryz.sizeOf199
  v208 := Tryz.zeroValue199
  g13 := by kernel_rfl }
open Go.RowKit Go.Lib in
theorem Tryz.unicode_To (c : Nat) (hc : c < 3) (r : Int) (T : Array CaseRow) (w : World) (hV : CaseVar 8 T w) (hok : CaseOk2 T) (hn : T.size ≤ 1000000000) :
    Calls Tryz.prog 150 #[.int .i64 c, .int .i32 r] w fun e w' => e = .returned (.int .i32 (toW T c r)) ∧ ∃ q, w' = w.drewN q := Any.unicode_To Tryz.lays262 c hc r T w hV hok hn
open Go.RowKit Go.Lib in
theorem Tryz.unicode_ToLower_any (r : Int) (T : Array CaseRow) (w : World) (hV : CaseVar 8 T w) (hok : CaseOk2 T) (hn : T.size ≤ 1000000000) :
    Calls Tryz.prog 137 #[.int .i32 r] w fun e w' => e = .returned (.int .i32 (Lib.toLowerW T r)) ∧ ∃ q, w' = w.drewN q := Any.unicode_ToLower_any Tryz.lays204 r T w hV hok hn
open Go.RowKit Go.Lib in
theorem Tryz.unicode_ToLower_laid (r : Int) (w : World) (hV : CaseVar 8 caseA w) :
    Calls Tryz.prog 137 #[.int .i32 r] w fun e w' => e = .returned (.int .i32 (toLowerU r)) ∧ ∃ q, w' = w.drewN q := Any.unicode_ToLower_laid Tryz.lays204 r w hV
end Go.Proofs
