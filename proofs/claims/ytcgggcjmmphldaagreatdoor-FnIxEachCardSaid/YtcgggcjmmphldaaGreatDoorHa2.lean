/-
  DERIVED: THE SHELF's CONTRACTS AT THIS DUMP, IN PLAIN WORDS (tools/lay-plain.mjs out of 'TryzShelf.lean', which tools/lay-shelf.mjs wrote): THE SAME DECLARATIONS UNDER THE SAME NAMES: 'import', 'namespace', 'open', 'def', 'theorem' AND NOTHING ELSE: no command of the shelf's: FOR A HAND-IN. Each laying: the table of numbers ('.._ren') and one theorem, a field a fact of the dump's own or the kernel's comparison; each contract: ONE APPLICATION.
  Multihashes: what the functions that write one make.
  Multihashes: what the functions that read one make of the bytes that Encode writes.
  (No condition beyond those that each theorem states.)
-/
import Derived.Shelf.Strings.Builder1
import Derived.Shelf.Strings.Builder2
import Derived.Shelf.Small.Bits
import Derived.Shelf.Strings.BuilderF
import Derived.Shelf.Strings.BuilderK
import Derived.Shelf.Strings.Builder2Cap
import Derived.Shelf.Strconv.Itoa0
import Derived.Ground.MnProg
import Derived.Shelf.Bin.PutUvarint
import Derived.Shelf.Strings.BuilderCap
import Derived.Test.YtcgggcjmmphldaaGreatDoorProg
import Derived.Test.YtcgggcjmmphldaaGreatDoorHa1
import Derived.Deep.RegionWith
import Derived.WalkSpells
import Derived.WalkLawsBesides
import Derived.Deep.QuietTactic
import Derived.BigQuiet
import Derived.Deep.DeepFit
namespace Go.Proofs
open Go.Shelf
def Tryz.lays170_ren : Go.Shelf.Ren := ⟨fun | 170 => 288 | n => n, fun | 70 => 179 | 3 => 3 | 0 => 0 | 72 => 181 | 37 => 46 | 5 => 5 | n => n, fun | n => n⟩
theorem Tryz.lays170 : Go.Proofs.Lays.n170 Tryz.prog Tryz.lays170_ren := {
  mixed := by kernel_rfl
  f170 := Tryz.func288.trans (congrArg some (by kernel_rfl))
  t0 := Tryz.underlying0
  a0 := Tryz.isAgg0
  z0 := Tryz.sizeOf0
  v0 := Tryz.zeroValue0
  t3 := Tryz.underlying3
  a3 := Tryz.isAgg3
  z3 := Tryz.sizeOf3
  v3 := Tryz.zeroValue3
  t37 := Tryz.underlying46
  a37 := Tryz.isAgg46
  z37 := Tryz.sizeOf46
  v37 := Tryz.zeroValue46
  t70 := Tryz.underlying179
  a70 := Tryz.isAgg179
  z70 := Tryz.sizeOf179
  v70 := Tryz.zeroValue179
  t72 := Tryz.underlying181
  a72 := Tryz.isAgg181
  z72 := Tryz.sizeOf181
  v72 := Tryz.zeroValue181 }
open Go.RowKit in
/-- (*strings.Builder).Len: "Len returns the number of accumulated bytes; b.Len() == len(b.String()).": the world is as it was. (LAID: no walk: one application.) -/
theorem Tryz.Builder_Len (B b : Nat) (bs : List Value) (w : World) (h : Lib.IsBuilder 181 5 B b bs w) :
    Calls Tryz.prog 288 #[.pointer (some ⟨b, 0, none⟩)] w fun e w' => e = .returned (.int .i64 bs.length) ∧ w' = w := Any.Builder_Len Tryz.lays170 B b bs w h
def Tryz.lays169_ren : Go.Shelf.Ren := ⟨fun | 169 => 106 | n => n, fun | 70 => 179 | 9 => 9 | 0 => 0 | 72 => 181 | 37 => 46 | 127 => 225 | 3 => 3 | 5 => 5 | n => n, fun | n => n⟩
theorem Tryz.lays169 : Go.Proofs.Lays.n169 Tryz.prog Tryz.lays169_ren := {
  mixed := by kernel_rfl
  f169 := Tryz.func106.trans (congrArg some (by kernel_rfl))
  t0 := Tryz.underlying0
  a0 := Tryz.isAgg0
  z0 := Tryz.sizeOf0
  v0 := Tryz.zeroValue0
  t3 := Tryz.underlying3
  a3 := Tryz.isAgg3
  z3 := Tryz.sizeOf3
  v3 := Tryz.zeroValue3
  t9 := Tryz.underlying9
  a9 := Tryz.isAgg9
  z9 := Tryz.sizeOf9
  v9 := Tryz.zeroValue9
  t37 := Tryz.underlying46
  a37 := Tryz.isAgg46
  z37 := Tryz.sizeOf46
  v37 := Tryz.zeroValue46
  t70 := Tryz.underlying179
  a70 := Tryz.isAgg179
  z70 := Tryz.sizeOf179
  v70 := Tryz.zeroValue179
  t72 := Tryz.underlying181
  a72 := Tryz.isAgg181
  z72 := Tryz.sizeOf181
  v72 := Tryz.zeroValue181
  t127 := Tryz.underlying225
  a127 := Tryz.isAgg225
  z127 := Tryz.sizeOf225
  v127 := Tryz.zeroValue225 }
theorem Tryz.Builder_Extra_169 : Builder.Extra Tryz.prog Tryz.lays169_ren := {
  sizeBuilder := by kernel_rfl
  liesBuilder := by kernel_rfl
  t5 := Tryz.underlying5
  a5 := Tryz.isAgg5
  z5 := Tryz.sizeOf5
  v5 := Tryz.zeroValue5
  infoByte := by kernel_rfl
  cellsByte := by kernel_rfl
  sizeByte := by kernel_rfl
  neB5 := by decide }
open Go.RowKit in
/-- (*strings.Builder).String: "String returns the accumulated string.": OF A BUILDER THAT HOLDS AT LEAST ONE BYTE. ✋ THE MODEL FREEZES THOSE BYTES IN THE BUFFER (unsafe.String): a later write INTO them ends the model's run without an answer; a later append BEHIND them goes on. The statement's order of evaluation is drawn: one draw. (LAID: no walk: one application.) -/
theorem Tryz.Builder_String (B b : Nat) (l : List UInt8) (w : World) (h : Lib.IsBuilder 181 5 B b (Lib.byteCells l) w) (h0 : l ≠ []) :
    Calls Tryz.prog 106 #[.pointer (some ⟨b, 0, none⟩)] w fun e w' => e = .returned (.string ⟨l.toArray⟩) ∧ Below B w w' := Any.Builder_String Tryz.lays169 Tryz.Builder_Extra_169 B b l w h h0
open Go.RowKit in
/-- (*strings.Builder).String OF A BUILDER THAT HOLDS NO BYTE: the empty string. (Its buffer is nil, or a row of which it has taken nothing yet; where that row has NO capacity the model lays one new block for unsafe.SliceData's 'some address'.) One draw. (LAID: no walk: one application.) -/
theorem Tryz.Builder_String_empty (B b : Nat) (w : World) (h : Lib.IsBuilder 181 5 B b [] w) (hBw : B ≤ w.heap.size) :
    Calls Tryz.prog 106 #[.pointer (some ⟨b, 0, none⟩)] w fun e w' => e = .returned (.string ⟨#[]⟩) ∧ Below B w w' := Any.Builder_String_empty Tryz.lays169 Tryz.Builder_Extra_169 B b w h hBw
open Go.RowKit in
/-- (*strings.Builder).String: "String returns the accumulated string.": WHATEVER THE BUILDER HOLDS. (LAID: no walk: one application.) -/
theorem Tryz.Builder_String_any (B b : Nat) (l : List UInt8) (w : World) (h : Lib.IsBuilder 181 5 B b (Lib.byteCells l) w) (hBw : B ≤ w.heap.size) :
    Calls Tryz.prog 106 #[.pointer (some ⟨b, 0, none⟩)] w fun e w' => e = .returned (.string ⟨l.toArray⟩) ∧ Below B w w' := Any.Builder_String_any Tryz.lays169 Tryz.Builder_Extra_169 B b l w h hBw
def Tryz.lays241_ren : Go.Shelf.Ren := ⟨fun | 241 => 124 | 277 => 141 | n => n, fun | 70 => 179 | 3 => 3 | 0 => 0 | 72 => 181 | 37 => 46 | 5 => 5 | n => n, fun | n => n⟩
theorem Tryz.lays241 : Go.Proofs.Lays.n241 Tryz.prog Tryz.lays241_ren := {
  mixed := by kernel_rfl
  f241 := Tryz.func124.trans (congrArg some (by kernel_rfl))
  f277 := Tryz.func141.trans (congrArg some (by kernel_rfl))
  t0 := Tryz.underlying0
  a0 := Tryz.isAgg0
  z0 := Tryz.sizeOf0
  v0 := Tryz.zeroValue0
  t3 := Tryz.underlying3
  a3 := Tryz.isAgg3
  z3 := Tryz.sizeOf3
  v3 := Tryz.zeroValue3
  t37 := Tryz.underlying46
  a37 := Tryz.isAgg46
  z37 := Tryz.sizeOf46
  v37 := Tryz.zeroValue46
  t70 := Tryz.underlying179
  a70 := Tryz.isAgg179
  z70 := Tryz.sizeOf179
  v70 := Tryz.zeroValue179
  t72 := Tryz.underlying181
  a72 := Tryz.isAgg181
  z72 := Tryz.sizeOf181
  v72 := Tryz.zeroValue181 }
theorem Tryz.Builder_Extra_241 : Builder.Extra Tryz.prog Tryz.lays241_ren := {
  sizeBuilder := by kernel_rfl
  liesBuilder := by kernel_rfl
  t5 := Tryz.underlying5
  a5 := Tryz.isAgg5
  z5 := Tryz.sizeOf5
  v5 := Tryz.zeroValue5
  infoByte := by kernel_rfl
  cellsByte := by kernel_rfl
  sizeByte := by kernel_rfl
  neB5 := by decide }
open Go.RowKit in
/-- (*strings.Builder).grow (no doc but "grow copies the buffer to a new, larger buffer so that there are at least n bytes of capacity beyond len(b.buf)."): AT A BUILDER WITHOUT A BUFFER: a new row of whatever bytes for its buffer, none of them its own yet. Three draws. (LAID: no walk: one application.) -/
theorem Tryz.Builder_grow_fresh (B b n : Nat) (w : World) (hB : B ≤ b) (hbk : w.heap[b]? = some (.cells #[.pointer (some ⟨b, 0, none⟩), .slice none 0 0] 181 (0, 0))) (hBw : B ≤ w.heap.size) (hn : n ≤ 281474976710656) :
    Calls Tryz.prog 124 #[.pointer (some ⟨b, 0, none⟩), .int .i64 n] w fun e w' => e = .returned (.tuple #[]) ∧ (Lib.BuilderAt 181 5 B b (.pointer (some ⟨b, 0, none⟩)) [] w' ∧ Below B w w') := Any.Builder_grow_fresh Tryz.lays241 Tryz.Builder_Extra_241 B b n w hB hbk hBw hn
def Tryz.lays165_ren : Go.Shelf.Ren := ⟨fun | 165 => 103 | 240 => 123 | 241 => 124 | 276 => 140 | 277 => 141 | n => n, fun | 70 => 179 | 3 => 3 | 0 => 0 | 4 => 4 | 9 => 9 | 20 => 20 | 72 => 181 | 37 => 46 | 164 => 87 | 5 => 5 | n => n, fun | n => n⟩
theorem Tryz.lays165 : Go.Proofs.Lays.n165 Tryz.prog Tryz.lays165_ren := {
  mixed := by kernel_rfl
  f165 := Tryz.func103.trans (congrArg some (by kernel_rfl))
  f240 := Tryz.func123.trans (congrArg some (by kernel_rfl))
  f241 := Tryz.func124.trans (congrArg some (by kernel_rfl))
  f276 := Tryz.func140.trans (congrArg some (by kernel_rfl))
  f277 := Tryz.func141.trans (congrArg some (by kernel_rfl))
  t0 := Tryz.underlying0
  a0 := Tryz.isAgg0
  z0 := Tryz.sizeOf0
  v0 := Tryz.zeroValue0
  t3 := Tryz.underlying3
  a3 := Tryz.isAgg3
  z3 := Tryz.sizeOf3
  v3 := Tryz.zeroValue3
  t4 := Tryz.underlying4
  a4 := Tryz.isAgg4
  z4 := Tryz.sizeOf4
  v4 := Tryz.zeroValue4
  t9 := Tryz.underlying9
  a9 := Tryz.isAgg9
  z9 := Tryz.sizeOf9
  v9 := Tryz.zeroValue9
  t20 := Tryz.underlying20
  a20 := Tryz.isAgg20
  z20 := Tryz.sizeOf20
  v20 := Tryz.zeroValue20
  t37 := Tryz.underlying46
  a37 := Tryz.isAgg46
  z37 := Tryz.sizeOf46
  v37 := Tryz.zeroValue46
  t70 := Tryz.underlying179
  a70 := Tryz.isAgg179
  z70 := Tryz.sizeOf179
  v70 := Tryz.zeroValue179
  t72 := Tryz.underlying181
  a72 := Tryz.isAgg181
  z72 := Tryz.sizeOf181
  v72 := Tryz.zeroValue181
  t164 := Tryz.underlying87
  a164 := Tryz.isAgg87
  z164 := Tryz.sizeOf87
  v164 := Tryz.zeroValue87 }
theorem Tryz.Builder_Extra_165 : Builder.Extra Tryz.prog Tryz.lays165_ren := {
  sizeBuilder := by kernel_rfl
  liesBuilder := by kernel_rfl
  t5 := Tryz.underlying5
  a5 := Tryz.isAgg5
  z5 := Tryz.sizeOf5
  v5 := Tryz.zeroValue5
  infoByte := by kernel_rfl
  cellsByte := by kernel_rfl
  sizeByte := by kernel_rfl
  neB5 := by decide }
open Go.RowKit in
/-- (*strings.Builder).Grow AT A BUILDER THAT HAS NOT BEEN WRITTEN ('var b strings.Builder; b.Grow(n)'): "Grow grows b's capacity, if necessary, to guarantee space for another n bytes.": it holds no byte behind it as before it. (LAID: no walk: one application.) -/
theorem Tryz.Builder_Grow_fresh (B b n : Nat) (w : World) (hB : B ≤ b) (hbk : w.heap[b]? = some (.cells #[.pointer none, .slice none 0 0] 181 (0, 0))) (hBw : B ≤ w.heap.size) (hn : n ≤ 281474976710656) :
    Calls Tryz.prog 103 #[.pointer (some ⟨b, 0, none⟩), .int .i64 n] w fun e w' => e = .returned (.tuple #[]) ∧ (Lib.BuilderAt 181 5 B b (.pointer (some ⟨b, 0, none⟩)) [] w' ∧ Below B w w') := Any.Builder_Grow_fresh Tryz.lays165 Tryz.Builder_Extra_165 B b n w hB hbk hBw hn
def Tryz.lays128_ren : Go.Shelf.Ren := ⟨fun | 128 => 76 | n => n, fun | 51 => 143 | 3 => 3 | 4 => 4 | 46 => 47 | 5 => 5 | 9 => 9 | n => n, fun | n => n⟩
theorem Tryz.lays128 : Go.Proofs.Lays.n128 Tryz.prog Tryz.lays128_ren := {
  mixed := by kernel_rfl
  f128 := Tryz.func76.trans (congrArg some (by kernel_rfl))
  t3 := Tryz.underlying3
  a3 := Tryz.isAgg3
  z3 := Tryz.sizeOf3
  v3 := Tryz.zeroValue3
  t4 := Tryz.underlying4
  a4 := Tryz.isAgg4
  z4 := Tryz.sizeOf4
  v4 := Tryz.zeroValue4
  t5 := Tryz.underlying5
  a5 := Tryz.isAgg5
  z5 := Tryz.sizeOf5
  v5 := Tryz.zeroValue5
  t9 := Tryz.underlying9
  a9 := Tryz.isAgg9
  z9 := Tryz.sizeOf9
  v9 := Tryz.zeroValue9
  t46 := Tryz.underlying47
  a46 := Tryz.isAgg47
  z46 := Tryz.sizeOf47
  v46 := Tryz.zeroValue47
  t51 := Tryz.underlying143
  a51 := Tryz.isAgg143
  z51 := Tryz.sizeOf143
  v51 := Tryz.zeroValue143 }
/-- bits.Len32: "Len32 returns the minimum number of bits required to represent x; the result is 0 for x == 0.": IT RETURNS 'Lib.bitLen x'; the world is as it was. ('h0', 'h1': x is a uint32.) (LAID: no walk: one application.) -/
theorem Tryz.bits_Len32 (x : Int) (w : World) (h0 : 0 ≤ x) (h1 : x ≤ 4294967295) :
    Calls Tryz.prog 76 #[.int .u32 x] w fun e w' => e = .returned (.int .i64 (Lib.bitLen x.toNat)) ∧ w' = w := Any.bits_Len32 Tryz.lays128 x w h0 h1
def Tryz.lays125_ren : Go.Shelf.Ren := ⟨fun | 125 => 46 | 128 => 76 | 129 => 77 | n => n, fun | 46 => 47 | 3 => 3 | 51 => 143 | 53 => 23 | 4 => 4 | 5 => 5 | 9 => 9 | n => n, fun | n => n⟩
theorem Tryz.lays125 : Go.Proofs.Lays.n125 Tryz.prog Tryz.lays125_ren := {
  mixed := by kernel_rfl
  f125 := Tryz.func46.trans (congrArg some (by kernel_rfl))
  f128 := Tryz.func76.trans (congrArg some (by kernel_rfl))
  f129 := Tryz.func77.trans (congrArg some (by kernel_rfl))
  t3 := Tryz.underlying3
  a3 := Tryz.isAgg3
  z3 := Tryz.sizeOf3
  v3 := Tryz.zeroValue3
  t4 := Tryz.underlying4
  a4 := Tryz.isAgg4
  z4 := Tryz.sizeOf4
  v4 := Tryz.zeroValue4
  t5 := Tryz.underlying5
  a5 := Tryz.isAgg5
  z5 := Tryz.sizeOf5
  v5 := Tryz.zeroValue5
  t9 := Tryz.underlying9
  a9 := Tryz.isAgg9
  z9 := Tryz.sizeOf9
  v9 := Tryz.zeroValue9
  t46 := Tryz.underlying47
  a46 := Tryz.isAgg47
  z46 := Tryz.sizeOf47
  v46 := Tryz.zeroValue47
  t51 := Tryz.underlying143
  a51 := Tryz.isAgg143
  z51 := Tryz.sizeOf143
  v51 := Tryz.zeroValue143
  t53 := Tryz.underlying23
  a53 := Tryz.isAgg23
  z53 := Tryz.sizeOf23
  v53 := Tryz.zeroValue23 }
/-- bits.Len: "Len returns the minimum number of bits required to represent x; the result is 0 for x == 0.": IT RETURNS 'Lib.bitLen x'; the world is as it was. (A uint has 64 bits in the model.) ITS CALLEE bits.Len64 IS MET BY ITS OWN CONTRACT OFF THE SHELF (lay that first). (LAID: no walk: one application.) -/
theorem Tryz.bits_Len (x : Int) (w : World) (h0 : 0 ≤ x) (h1 : x ≤ 18446744073709551615) :
    Calls Tryz.prog 46 #[.int .u64 x] w fun e w' => e = .returned (.int .i64 (Lib.bitLen x.toNat)) ∧ w' = w := Any.bits_Len Tryz.lays125 x w h0 h1
open Go.RowKit in
/-- (*strings.Builder).Len: "Len returns the number of accumulated bytes; b.Len() == len(b.String()).": the world is as it was. (THE FORM '_f': 'Lib.IsBuilderF'.) (LAID: no walk: one application.) -/
theorem Tryz.Builder_Len_f (B b : Nat) (bs : List Value) (w : World) (h : Lib.IsBuilderF 181 5 B b bs w) :
    Calls Tryz.prog 288 #[.pointer (some ⟨b, 0, none⟩)] w fun e w' => e = .returned (.int .i64 bs.length) ∧ w' = w := Any.Builder_Len_f Tryz.lays170 B b bs w h
open Go.RowKit in
/-- (*strings.Builder).String: "String returns the accumulated string.": OF A BUILDER THAT HOLDS AT LEAST ONE BYTE. ✋ THE MODEL FREEZES THOSE BYTES IN THE BUFFER (unsafe.String): a later write INTO them ends the model's run without an answer; a later append BEHIND them goes on. The statement's order of evaluation is drawn: one draw. THE FORM '_f': IT SAYS BESIDES THAT THE BUILDER IS A BUILDER STILL ('Lib.IsBuilderF', the same bytes): SO IT CAN BE WRITTEN ON: 'b.WriteString(b.String()[:k])'. (LAID: no walk: one application.) -/
theorem Tryz.Builder_String_f (B b : Nat) (l : List UInt8) (w : World) (h : Lib.IsBuilderF 181 5 B b (Lib.byteCells l) w) (h0 : l ≠ []) :
    Calls Tryz.prog 106 #[.pointer (some ⟨b, 0, none⟩)] w fun e w' => e = .returned (.string ⟨l.toArray⟩) ∧ (Lib.IsBuilderF 181 5 B b (Lib.byteCells l) w' ∧ Below B w w') := Any.Builder_String_f Tryz.lays169 Tryz.Builder_Extra_169 B b l w h h0
open Go.RowKit in
/-- (*strings.Builder).String OF A BUILDER THAT HOLDS NO BYTE: the empty string; THE FORM '_f': a builder still. (LAID: no walk: one application.) -/
theorem Tryz.Builder_String_empty_f (B b : Nat) (w : World) (h : Lib.IsBuilderF 181 5 B b [] w) (hBw : B ≤ w.heap.size) :
    Calls Tryz.prog 106 #[.pointer (some ⟨b, 0, none⟩)] w fun e w' => e = .returned (.string ⟨#[]⟩) ∧ (Lib.IsBuilderF 181 5 B b [] w' ∧ Below B w w') := Any.Builder_String_empty_f Tryz.lays169 Tryz.Builder_Extra_169 B b w h hBw
open Go.RowKit in
/-- (*strings.Builder).String: "String returns the accumulated string.": WHATEVER THE BUILDER HOLDS; THE FORM '_f': OF A BUILDER THAT MAY HAVE BEEN READ BEFORE; AND IT IS A BUILDER STILL, holding the same bytes: it can be written on. (LAID: no walk: one application.) -/
theorem Tryz.Builder_String_any_f (B b : Nat) (l : List UInt8) (w : World) (h : Lib.IsBuilderF 181 5 B b (Lib.byteCells l) w) (hBw : B ≤ w.heap.size) :
    Calls Tryz.prog 106 #[.pointer (some ⟨b, 0, none⟩)] w fun e w' => e = .returned (.string ⟨l.toArray⟩) ∧ (Lib.IsBuilderF 181 5 B b (Lib.byteCells l) w' ∧ Below B w w') := Any.Builder_String_any_f Tryz.lays169 Tryz.Builder_Extra_169 B b l w h hBw
open Go.RowKit in
/-- (*strings.Builder).String: "String returns the accumulated string.": OF A BUILDER THAT HOLDS AT LEAST ONE BYTE. ✋ THE MODEL FREEZES THOSE BYTES IN THE BUFFER (unsafe.String): a later write INTO them ends the model's run without an answer; a later append BEHIND them goes on. The statement's order of evaluation is drawn: one draw. THE FORM '_k': OVER 'Lib.IsBuilderF' (a builder that 'String()' may have read), AND WITH THE FRAME THAT REACHES ABOVE THE BUILDER: 'Lib.OthersKept': every block that is not b and is no row of uint8's stands as it stood: the iterator of a range among them. (LAID: no walk: one application.) -/
theorem Tryz.Builder_String_k (B b : Nat) (l : List UInt8) (w : World) (h : Lib.IsBuilderF 181 5 B b (Lib.byteCells l) w) (h0 : l ≠ []) :
    Calls Tryz.prog 106 #[.pointer (some ⟨b, 0, none⟩)] w fun e w' => e = .returned (.string ⟨l.toArray⟩) ∧ (Lib.IsBuilderF 181 5 B b (Lib.byteCells l) w' ∧ Below B w w' ∧ Lib.OthersKept 5 (some b) w w') := Any.Builder_String_k Tryz.lays169 Tryz.Builder_Extra_169 B b l w h h0
open Go.RowKit in
/-- (*strings.Builder).String OF A BUILDER THAT HOLDS NO BYTE: the empty string; THE FORM '_k': OVER 'Lib.IsBuilderF' (a builder that 'String()' may have read), AND WITH THE FRAME THAT REACHES ABOVE THE BUILDER: 'Lib.OthersKept': every block that is not b and is no row of uint8's stands as it stood: the iterator of a range among them. (LAID: no walk: one application.) -/
theorem Tryz.Builder_String_empty_k (B b : Nat) (w : World) (h : Lib.IsBuilderF 181 5 B b [] w) (hBw : B ≤ w.heap.size) :
    Calls Tryz.prog 106 #[.pointer (some ⟨b, 0, none⟩)] w fun e w' => e = .returned (.string ⟨#[]⟩) ∧ (Lib.IsBuilderF 181 5 B b [] w' ∧ Below B w w' ∧ Lib.OthersKept 5 (some b) w w') := Any.Builder_String_empty_k Tryz.lays169 Tryz.Builder_Extra_169 B b w h hBw
open Go.RowKit in
/-- (*strings.Builder).String: "String returns the accumulated string.": WHATEVER THE BUILDER HOLDS; THE FORM '_k': OVER 'Lib.IsBuilderF' (a builder that 'String()' may have read), AND WITH THE FRAME THAT REACHES ABOVE THE BUILDER: 'Lib.OthersKept': every block that is not b and is no row of uint8's stands as it stood: the iterator of a range among them. (LAID: no walk: one application.) -/
theorem Tryz.Builder_String_any_k (B b : Nat) (l : List UInt8) (w : World) (h : Lib.IsBuilderF 181 5 B b (Lib.byteCells l) w) (hBw : B ≤ w.heap.size) :
    Calls Tryz.prog 106 #[.pointer (some ⟨b, 0, none⟩)] w fun e w' => e = .returned (.string ⟨l.toArray⟩) ∧ (Lib.IsBuilderF 181 5 B b (Lib.byteCells l) w' ∧ Below B w w' ∧ Lib.OthersKept 5 (some b) w w') := Any.Builder_String_any_k Tryz.lays169 Tryz.Builder_Extra_169 B b l w h hBw
open Go.RowKit in
/-- (*strings.Builder).grow (no doc but "grow copies the buffer to a new, larger buffer so that there are at least n bytes of capacity beyond len(b.buf)."): AT A BUILDER WITHOUT A BUFFER: a new row of whatever bytes for its buffer, none of them its own yet. Three draws. (LAID: no walk: one application.) -/
theorem Tryz.Builder_grow_fresh_cap (B b n : Nat) (w : World) (hB : B ≤ b) (hbk : w.heap[b]? = some (.cells #[.pointer (some ⟨b, 0, none⟩), .slice none 0 0] 181 (0, 0))) (hBw : B ≤ w.heap.size) (hn : n ≤ 281474976710656) :
    Calls Tryz.prog 124 #[.pointer (some ⟨b, 0, none⟩), .int .i64 n] w fun e w' => e = .returned (.tuple #[]) ∧ (Lib.BuilderAt 181 5 B b (.pointer (some ⟨b, 0, none⟩)) [] w' ∧ Below B w w') ∧ ∃ p cap, w'.cell? ⟨b, 1, none⟩ = some (.slice p 0 cap) ∧ n ≤ cap := Any.Builder_grow_fresh_cap Tryz.lays241 Tryz.Builder_Extra_241 B b n w hB hbk hBw hn
open Go.RowKit in
/-- (*strings.Builder).Grow AT A BUILDER THAT HAS NOT BEEN WRITTEN ('var b strings.Builder; b.Grow(n)'): "Grow grows b's capacity, if necessary, to guarantee space for another n bytes.": it holds no byte behind it as before it. (LAID: no walk: one application.) -/
theorem Tryz.Builder_Grow_fresh_cap (B b n : Nat) (w : World) (hB : B ≤ b) (hbk : w.heap[b]? = some (.cells #[.pointer none, .slice none 0 0] 181 (0, 0))) (hBw : B ≤ w.heap.size) (hn : n ≤ 281474976710656) :
    Calls Tryz.prog 103 #[.pointer (some ⟨b, 0, none⟩), .int .i64 n] w fun e w' => e = .returned (.tuple #[]) ∧ (Lib.BuilderAt 181 5 B b (.pointer (some ⟨b, 0, none⟩)) [] w' ∧ Below B w w') ∧ ∃ p cap, w'.cell? ⟨b, 1, none⟩ = some (.slice p 0 cap) ∧ n ≤ cap := Any.Builder_Grow_fresh_cap Tryz.lays165 Tryz.Builder_Extra_165 B b n w hB hbk hBw hn
def Tryz.lays129_ren : Go.Shelf.Ren := ⟨fun | 129 => 77 | n => n, fun | 53 => 23 | 3 => 3 | 4 => 4 | 46 => 47 | 5 => 5 | 9 => 9 | n => n, fun | n => n⟩
theorem Tryz.lays129 : Go.Proofs.Lays.n129 Tryz.prog Tryz.lays129_ren := {
  mixed := by kernel_rfl
  f129 := Tryz.func77.trans (congrArg some (by kernel_rfl))
  t3 := Tryz.underlying3
  a3 := Tryz.isAgg3
  z3 := Tryz.sizeOf3
  v3 := Tryz.zeroValue3
  t4 := Tryz.underlying4
  a4 := Tryz.isAgg4
  z4 := Tryz.sizeOf4
  v4 := Tryz.zeroValue4
  t5 := Tryz.underlying5
  a5 := Tryz.isAgg5
  z5 := Tryz.sizeOf5
  v5 := Tryz.zeroValue5
  t9 := Tryz.underlying9
  a9 := Tryz.isAgg9
  z9 := Tryz.sizeOf9
  v9 := Tryz.zeroValue9
  t46 := Tryz.underlying47
  a46 := Tryz.isAgg47
  z46 := Tryz.sizeOf47
  v46 := Tryz.zeroValue47
  t53 := Tryz.underlying23
  a53 := Tryz.isAgg23
  z53 := Tryz.sizeOf23
  v53 := Tryz.zeroValue23 }
/-- bits.Len64: "Len64 returns the minimum number of bits required to represent x; the result is 0 for x == 0.": IT RETURNS 'Lib.bitLen x'; the world is as it was. ('h0', 'h1': x is a uint64.) (LAID: no walk: one application.) -/
theorem Tryz.bits_Len64 (x : Int) (w : World) (h0 : 0 ≤ x) (h1 : x ≤ 18446744073709551615) :
    Calls Tryz.prog 77 #[.int .u64 x] w fun e w' => e = .returned (.int .i64 (Lib.bitLen x.toNat)) ∧ w' = w := Any.bits_Len64 Tryz.lays129 x w h0 h1
def Tryz.laysBin46_ren : Go.Shelf.Ren := ⟨fun | 46 => 122 | n => n, fun | 22 => 46 | 33 => 23 | 3 => 3 | 4 => 4 | 5 => 5 | 0 => 0 | 45 => 47 | n => n, fun | n => n⟩
theorem Tryz.laysBin46 : Go.Proofs.LaysBin.n46 Tryz.prog Tryz.laysBin46_ren := {
  mixed := by kernel_rfl
  f46 := Tryz.func122.trans (congrArg some (by kernel_rfl))
  t0 := Tryz.underlying0
  a0 := Tryz.isAgg0
  z0 := Tryz.sizeOf0
  v0 := Tryz.zeroValue0
  i0 := by kernel_rfl
  t3 := Tryz.underlying3
  a3 := Tryz.isAgg3
  z3 := Tryz.sizeOf3
  v3 := Tryz.zeroValue3
  i3 := by kernel_rfl
  t4 := Tryz.underlying4
  a4 := Tryz.isAgg4
  z4 := Tryz.sizeOf4
  v4 := Tryz.zeroValue4
  i4 := by kernel_rfl
  t5 := Tryz.underlying5
  a5 := Tryz.isAgg5
  z5 := Tryz.sizeOf5
  v5 := Tryz.zeroValue5
  i5 := by kernel_rfl
  t22 := Tryz.underlying46
  a22 := Tryz.isAgg46
  z22 := Tryz.sizeOf46
  v22 := Tryz.zeroValue46
  i22 := by kernel_rfl
  t33 := Tryz.underlying23
  a33 := Tryz.isAgg23
  z33 := Tryz.sizeOf23
  v33 := Tryz.zeroValue23
  i33 := by kernel_rfl
  t45 := Tryz.underlying47
  a45 := Tryz.isAgg47
  z45 := Tryz.sizeOf47
  v45 := Tryz.zeroValue47
  i45 := by kernel_rfl }
open Go.RowKit in
/-- binary.PutUvarint: "PutUvarint encodes a uint64 into buf and returns the number of bytes written. If the buffer is too small, PutUvarint will panic.": WHERE buf HAS ROOM: x's VARINT ('Lib.uvarint x') IS LAID IN buf's FIRST CELLS ('World.setCells'); its length comes back; nothing else turns. (LAID: no walk: one application.) -/
theorem Tryz.binary_PutUvarint (g o n c x : Nat) (hx : x < 18446744073709551616) (w : World) (hn : (Lib.uvarint x).length ≤ n) (hcell : ∀ j, j < (Lib.uvarint x).length → (w.cell? ⟨g, o + j, none⟩).isSome = true ∧ w.frozen? ⟨g, o + j, none⟩ = false) :
    Calls Tryz.prog 122 #[.slice (some ⟨g, o, none⟩) n c, .int .u64 x] w fun e w' => e = .returned (.int .i64 (Lib.uvarint x).length) ∧ w' = w.setCells g o (Lib.byteCells (Lib.uvarint x)) := Any.binary_PutUvarint Tryz.laysBin46 g o n c x hx w hn hcell
end Go.Proofs
namespace Go.Proofs.YtcgggcjmmphldaaGreatDoor
open Go.RowKit

theorem bitLenAux_mono (f : Nat) : ∀ (g x : Nat), x < 2 ^ f → f ≤ g → Lib.bitLenAux g x = Lib.bitLenAux f x := by
  induction f with
  | zero => intro g x hx _; obtain rfl : x = 0 := by simpa using hx
            cases g <;> simp [Lib.bitLenAux]
  | succ f ih =>
    intro g x hx hg
    obtain ⟨g, rfl⟩ : ∃ k, g = k + 1 := ⟨g - 1, by omega⟩
    simp only [Lib.bitLenAux]
    split
    · rfl
    · rw [ih g (x / 2) (by rw [Nat.pow_succ] at hx; omega) (by omega)]
theorem bitLenAux_step (f x : Nat) (hx : 0 < x) : Lib.bitLenAux (f + 1) x = 1 + Lib.bitLenAux f (x / 2) := by simp only [Lib.bitLenAux]; rw [if_neg (by omega)]
theorem bitLen_small (x : Nat) (hx : x < 128) : Lib.bitLen x ≤ 7 ∧ (0 < x → 0 < Lib.bitLen x) ∧ (x = 0 → Lib.bitLen x = 0) := by
  have h : ∀ n : Fin 128, Lib.bitLen n.val ≤ 7 ∧ (0 < n.val → 0 < Lib.bitLen n.val) ∧ (n.val = 0 → Lib.bitLen n.val = 0) := by decide +kernel
  exact h ⟨x, hx⟩
theorem bitLen_big (x : Nat) (hx : 128 ≤ x) (h64 : x < 18446744073709551616) : Lib.bitLen x = 7 + Lib.bitLen (x / 128) := by
  have e : Lib.bitLen (x / 128) = Lib.bitLenAux 57 (x / 128) := bitLenAux_mono 57 64 (x / 128) (by omega) (by omega)
  rw [e]
  unfold Lib.bitLen
  rw [bitLenAux_step 63 x (by omega), bitLenAux_step 62 _ (by omega), bitLenAux_step 61 _ (by omega), bitLenAux_step 60 _ (by omega), bitLenAux_step 59 _ (by omega), bitLenAux_step 58 _ (by omega), bitLenAux_step 57 _ (by omega)]
  have : x / 2 / 2 / 2 / 2 / 2 / 2 / 2 = x / 128 := by omega
  rw [this]; omega
theorem uvarint_size (x : Nat) : x < 18446744073709551616 → (Lib.uvarint x).length = Lib.bitLen x / 7 + (if 0 < Lib.bitLen x % 7 ∨ Lib.bitLen x / 7 = 0 then 1 else 0) := by
  induction x using Nat.strongRecOn with
  | _ x ih =>
    intro h64
    by_cases h : x < 128
    · rw [Lib.uvarint_small h]
      have := bitLen_small x h
      simp only [List.length_cons, List.length_nil]
      split <;> omega
    · rw [Lib.uvarint_big (by omega), List.length_cons, ih (x / 128) (by omega) (by omega), bitLen_big x (by omega) h64]
      have hp : 0 < Lib.bitLen (x / 128) := by
        by_cases h2 : x / 128 < 128
        · exact (bitLen_small _ h2).2.1 (by omega)
        · rw [bitLen_big _ (by omega) (by omega)]; omega
      split <;> split <;> omega
theorem bitLen_le (x : Nat) (_h : x < 18446744073709551616) : Lib.bitLen x ≤ 64 := by
  have : ∀ f y, Lib.bitLenAux f y ≤ f := by
    intro f
    induction f with
    | zero => intro y; simp [Lib.bitLenAux]
    | succ f ih => intro y; simp only [Lib.bitLenAux]; split; omega; have := ih (y / 2); omega
  exact this 64 x

theorem ret1 {a a' : Int} {k : IntKind} (h : a = a') : Ending.returned (.int k a) = .returned (.int k a') := by rw [h]

set_option maxRecDepth 100000 in
theorem uvarintSize_any (x : Nat) (w : World) (hx : x < 18446744073709551616) :
    Calls Tryz.prog 100 #[.int .u64 x] w fun e w' => e = .returned (.int .i64 (Lib.uvarint x).length) ∧ w = w' := by
  have HL := Lib.hid (uvarint_size x hx)
  have hle := bitLen_le x hx
  have HX := Lib.hid hx
  obtain ⟨L, hL⟩ : ∃ L, L = Lib.bitLen x := ⟨_, rfl⟩
  rw [← hL] at hle
  have HLL := Lib.hid hL
  clear hx hL
  have hcs : (0 < L % 7) ∨ (L % 7 = 0 ∧ L / 7 = 0) ∨ (L % 7 = 0 ∧ 0 < L / 7) := by omega
  rcases hcs with h | ⟨h1, h2⟩ | ⟨h1, h2⟩
  · have hI : (0 : Int) < (L : Int) % 7 := by omega
    go_enter Tryz.func100, Tryz.ntmps100
    go_wp2_with (go_at_call 77; refine (Tryz.bits_Len64 _ _ (by have := HX.out; omega) (by have := HX.out; omega)).mono ?_; rintro e w' ⟨rfl, rfl⟩; simp only [Int.toNat_natCast]; rw [← HLL.out])
    go_ret
    exact ⟨ret1 (by rw [HL.out, ← HLL.out, if_pos (Or.inl h)]; omega), rfl⟩
  · have hI : (L : Int) % 7 ≤ 0 := by omega
    have hB : ((L : Int) / 7 == 0) = true := beq_iff_eq.2 (by omega)
    have H1 := Lib.hid h1
    have H2 := Lib.hid h2
    clear h1 h2
    go_enter Tryz.func100, Tryz.ntmps100
    go_wp2_with (go_at_call 77; refine (Tryz.bits_Len64 _ _ (by have := HX.out; omega) (by have := HX.out; omega)).mono ?_; rintro e w' ⟨rfl, rfl⟩; simp only [Int.toNat_natCast]; rw [← HLL.out])
    go_ret
    exact ⟨ret1 (by have := H2.out; rw [HL.out, ← HLL.out, if_pos (Or.inr H2.out)]; omega), rfl⟩
  · have hI : (L : Int) % 7 ≤ 0 := by omega
    have hB : ((L : Int) / 7 == 0) = false := beq_eq_false_iff_ne.2 (by omega)
    have H1 := Lib.hid h1
    have H2 := Lib.hid h2
    clear h1 h2
    go_enter Tryz.func100, Tryz.ntmps100
    go_wp2_with (go_at_call 77; refine (Tryz.bits_Len64 _ _ (by have := HX.out; omega) (by have := HX.out; omega)).mono ?_; rintro e w' ⟨rfl, rfl⟩; simp only [Int.toNat_natCast]; rw [← HLL.out])
    go_ret
    exact ⟨ret1 (by have := H1.out; have := H2.out; rw [HL.out, ← HLL.out, if_neg (by omega)]; omega), rfl⟩

set_option maxRecDepth 100000 in
theorem putUvarint_any (g o n c x : Nat) (hx : x < 18446744073709551616) (w : World) (hn : (Lib.uvarint x).length ≤ n) (hcell : ∀ j, j < (Lib.uvarint x).length → (w.cell? ⟨g, o + j, none⟩).isSome = true ∧ w.frozen? ⟨g, o + j, none⟩ = false) :
    Calls Tryz.prog 101 #[.slice (some ⟨g, o, none⟩) n c, .int .u64 x] w fun e w' => e = .returned (.int .i64 (Lib.uvarint x).length) ∧ w.setCells g o (Lib.byteCells (Lib.uvarint x)) = w' := by
  have H := Lib.hid (Tryz.binary_PutUvarint g o n c x hx w hn hcell)
  clear hcell hn hx
  go_enter Tryz.func101, Tryz.ntmps101
  go_wp2_with (go_at_call 122; refine H.out.mono ?_; rintro e w' ⟨rfl, rfl⟩)
  go_ret
  exact ⟨rfl, rfl⟩

/-- A varint is laid into a block of the caller's: at a place 'pre.length', over as many cells. -/
theorem putUvarint_blk (g o n c x : Nat) (t : TypeId) (pre mid post : List Value) (hx : x < 18446744073709551616) (w : World) (hn : (Lib.uvarint x).length ≤ n) (hpre : pre.length = o) (hmid : mid.length = (Lib.uvarint x).length) (hb : Blk w g t (pre ++ (mid ++ post)).toArray) :
    Calls Tryz.prog 101 #[.slice (some ⟨g, o, none⟩) n c, .int .u64 x] w fun e w' => e = .returned (.int .i64 (Lib.uvarint x).length) ∧ Blk w' g t (pre ++ (Lib.byteCells (Lib.uvarint x) ++ post)).toArray ∧ w.grownBy w' (some g) ∧ w'.heap.size = w.heap.size := by
  refine (putUvarint_any g o n c x hx w hn ?_).mono ?_
  · intro j hj
    refine ⟨?_, hb.frozen _⟩
    rw [hb.cell]
    simp
    omega
  · rintro e w' ⟨rfl, rfl⟩
    exact ⟨rfl, hb.setCells _ _ _ _ _ _ hpre (by rw [hmid, Lib.byteCells_length]), grown_setCells _ _ _ _, setCells_size _ _ _ _⟩

/-- A multihash's bytes. -/
def mhB (code : Nat) (d : List UInt8) : List UInt8 := Lib.uvarint code ++ (Lib.uvarint d.length ++ d)
theorem mhB_length (code : Nat) (d : List UInt8) : (mhB code d).length = (Lib.uvarint code).length + (Lib.uvarint d.length).length + d.length := by simp [mhB]; omega

set_option maxRecDepth 100000 in
set_option maxHeartbeats 1000000 in
theorem encode_any (b o c code : Nat) (d : List UInt8) (w : World) (hd : d.length ≤ 2147483647) (hc : code < 18446744073709551616) (hs : Seg w b o d) :
    Calls Tryz.prog 62 #[.slice (some ⟨b, o, none⟩) d.length c, .int .u64 code] w fun e w' =>
      e = .returned (.tuple #[.slice (some ⟨w.heap.size, 0, none⟩) (mhB code d).length (mhB code d).length, .nilIface]) ∧ Blk w' w.heap.size 5 (Lib.byteCells (mhB code d)).toArray ∧ Below w.heap.size w w' := by
  have hu1 := Lib.uvarint_length64 hc
  have hu2 := Lib.uvarint_length64 (x := d.length) (by omega)
  have HCC := Lib.hid hc
  have HS := Lib.hid hs
  clear hc hs
  obtain ⟨i0, hi, hz0, hz1, hz2⟩ := info_parts Tryz.infoByte
  have hN := mhB_length code d
  have HN := Lib.hid hN
  clear hN
  have hmk : ∀ (W : World), (Instr.makeSlice 46 (.int .i64 (((Lib.uvarint code).length : Int) + ((Lib.uvarint d.length).length : Int) + (d.length : Int))) (.int .i64 (((Lib.uvarint code).length : Int) + ((Lib.uvarint d.length).length : Int) + (d.length : Int)))).run Tryz.prog W = .ok (.slice (some ⟨W.heap.size, 0, none⟩) (mhB code d).length (mhB code d).length) (W.alloc (.cells (zeroBytes (mhB code d).length).toArray 5)) := by
    intro W
    have h := run_makeBytes Tryz.underlying46 hi hz0 hz1 hz2 (mhB code d).length (by rw [HN.out]; omega) W
    rw [HN.out] at h ⊢
    push_cast at h
    exact h
  have HMK := Lib.hid hmk
  clear hmk
  go_enter Tryz.func62, Tryz.ntmps62
  have hmk := HMK.out w
  go_wp2_with (first
    | (go_at_call_of 100 (Value.int .u64 (code : Int)); refine (uvarintSize_any code _ HCC.out).mono ?_; rintro e w' ⟨rfl, rfl⟩)
    | (go_at_call 100; refine (uvarintSize_any d.length _ (by omega)).mono ?_; rintro e w' ⟨rfl, rfl⟩))
  have hlN : (mhB code d).length ≤ 2147483700 := by rw [HN.out]; omega
  refine (putUvarint_blk w.heap.size 0 _ _ code 5 [] (zeroBytes (Lib.uvarint code).length) (zeroBytes ((Lib.uvarint d.length).length + d.length)) HCC.out _ (by rw [HN.out]; omega) rfl (zeroBytes_length _) ?_).mono ?_
  · rw [List.nil_append, ← zeroBytes_append, ← Nat.add_assoc, ← HN.out]
    exact Blk.new _ _ _
  rintro e w1 ⟨rfl, hb1, hg1, hz1'⟩
  have hp2 := Lib.uvarint_pos d.length
  have hle1 : (Lib.uvarint code).length ≤ (mhB code d).length := by rw [HN.out]; omega
  have hne1 : ¬ (mhB code d).length = (Lib.uvarint code).length := by rw [HN.out]; omega
  have hle2 : (Lib.uvarint code).length + (Lib.uvarint d.length).length ≤ (mhB code d).length := by rw [HN.out]; omega
  go_wp2_with fail
  refine (putUvarint_blk w.heap.size _ _ _ d.length 5 (Lib.byteCells (Lib.uvarint code)) (zeroBytes (Lib.uvarint d.length).length) (zeroBytes d.length) (by omega) w1 (by rw [HN.out]; omega) (Lib.byteCells_length _) (zeroBytes_length _) ?_).mono ?_
  · rw [← zeroBytes_append]; exact hb1
  rintro e w2 ⟨rfl, hb2, hg2, hz2'⟩
  have hB1 : Below w.heap.size w w1 := below_of_grown (((Below.refl _ w).alloc (Nat.le_refl _) _)) hg1 (by simp) (Nat.le_refl _)
  have hB2 : Below w.heap.size w w2 := below_of_grown hB1 hg2 (by rw [hz1']; simp) (Nat.le_refl _)
  have hb2' : w2.heap[w.heap.size]? = some (.cells (Lib.byteCells (Lib.uvarint code ++ Lib.uvarint d.length) ++ zeroBytes d.length).toArray 5 (0, 0)) := by
    have e : Lib.byteCells (Lib.uvarint code ++ Lib.uvarint d.length) ++ zeroBytes d.length = Lib.byteCells (Lib.uvarint code) ++ (Lib.byteCells (Lib.uvarint d.length) ++ zeroBytes d.length) := by simp [Lib.byteCells]
    rw [e]; exact hb2
  have HB2' := Lib.hid hb2'
  have HSS := Lib.hid (fun (h : 0 < d.length) => (HS.out.below hB2 (HS.out.lt h)))
  clear hb2' hb2 hb1 hg2 hz2' hg1 hz1' hp2
  go_wp2_with (first
    | ((with_reducible show wpList _ _ _ _ _ _); refine wpList_copyB (o := ⟨some 35, _, _, _, _, _⟩) rfl (.tmp 33) (.tmp 34) 46 46 rfl 5 Tryz.underlying46 Tryz.sizeByte w.heap.size ((Lib.uvarint code).length + (Lib.uvarint d.length).length) _ 5 HB2'.out (Lib.byteCells d) ?_ (byteCells_one d) w.heap.size w hB2 (Nat.le_refl _) ?_ ?_
       go_loud (focus
        simp only [List.length_append, Lib.byteCells_length, zeroBytes_length]; omega)
       go_loud (focus
        refine ⟨_, _, _, _, _, _, rfl, rfl, ?_, ?_⟩
        focus
         rw [Lib.byteCells_length]
         have := HN.out
         show d.length = min d.length _
         omega
        focus
         rw [Lib.byteCells_length]
         intro hpos
         have hne : ¬ (mhB code d).length = (Lib.uvarint code).length + (Lib.uvarint d.length).length := by rw [HN.out]; omega
         exact ⟨by rw [if_neg hne], _, rfl, (HSS.out hpos).cells⟩)
       intro w3 HG3 HB3))
  all_goals
    go_ret2
    refine ⟨?_, ?_, HB3⟩
    · first
      | rfl
      | (have h : (mhB code d).length = (Lib.uvarint code).length + (Lib.uvarint d.length).length := by assumption
         rw [h]; rfl)
    · have := HG3.out
      unfold Blk
      rw [this]
      congr 2
      rw [splice]
      simp only [Lib.byteCells, mhB, List.map_append]
      rw [List.take_append_of_le_length (by simp), List.take_of_length_le (by simp), List.drop_of_length_le (by simp [zeroBytes, Lib.byteCells]; omega)]
      simp
end Go.Proofs.YtcgggcjmmphldaaGreatDoor
namespace Go.Proofs.YtcgggcjmmphldaaGreatDoor
open Go.RowKit

/-- The address that a slice 's[k:]' has. -/
def cutA (b o c k : Nat) : Option Addr := if c = k then some ⟨b, o, none⟩ else some ⟨b, o + k, none⟩

set_option maxRecDepth 100000 in
set_option maxHeartbeats 1000000 in
theorem mhUvarint_ok (x b o n c : Nat) (rest : List UInt8) (w : World) (hx : x < 9223372036854775808) (hn : n = (Lib.uvarint x).length + rest.length) (hnc : n ≤ c) (_hnm : n ≤ 4294967296) (hs : Seg w b o (Lib.uvarint x ++ rest)) :
    Calls Tryz.prog 139 #[.slice (some ⟨b, o, none⟩) n c] w fun e w' =>
      e = .returned (.tuple #[.int .u64 x, .slice (cutA b o c (Lib.uvarint x).length) rest.length (c - (Lib.uvarint x).length), .nilIface]) ∧ Drew w w' := by
  have hp := Lib.uvarint_pos x
  obtain ⟨k, hk⟩ : ∃ k, k = (Lib.uvarint x).length := ⟨_, rfl⟩
  have HC := Lib.hid (fromUvarint_ok x b o n c w hx (by omega) hs.left)
  rw [show (Lib.uvarint x).length = k from hk.symm] at HC hn hp ⊢
  have HK := Lib.hid hk
  have HN := Lib.hid hn
  have hkn : k ≤ n := by omega
  have hb1 : ((k : Int) == 0) = false := beq_eq_false_iff_ne.2 (by omega)
  have hb2 : ¬ ((k : Int) < 0) := by omega
  clear hx hk hs hn
  go_enter Tryz.func139, Tryz.ntmps139
  go_wp2_with fail

  go_fit HC.out
  rintro e w' ⟨rfl, rfl⟩
  go_wp2_with fail
  go_quiet (fail)
  go_wp2
  all_goals
    go_ret3
    have hl : n - k = rest.length := by have := HN.out; omega
    refine ⟨?_, Drew.drewN _ _⟩
    rename_i h
    simp [cutA, h, hl]

theorem mhUvarint_more (x b o n c m : Nat) (rest : List UInt8) (w : World) (hx : x < 9223372036854775808) (hm : m = rest.length) (hn : n = (Lib.uvarint x).length + m) (hnc : n ≤ c) (hnm : n ≤ 4294967296) (hr : 0 < m) (hs : Seg w b o (Lib.uvarint x ++ rest)) :
    Calls Tryz.prog 139 #[.slice (some ⟨b, o, none⟩) n c] w fun e w' =>
      e = .returned (.tuple #[.int .u64 x, .slice (some ⟨b, o + (Lib.uvarint x).length, none⟩) m (c - (Lib.uvarint x).length), .nilIface]) ∧ Drew w w' := by
  subst hm
  have h := mhUvarint_ok x b o n c rest w hx hn hnc hnm hs
  rw [cutA, if_neg (by omega)] at h
  exact h

theorem results_tmp4 {fn : Func} {t u v x : Tmp} (h : fn.results = #[.tmp t, .tmp u, .tmp v, .tmp x]) (tmps : Array Value) (P : Program) (w : World) :
    (results fn tmps).run P w = .ok (.tuple #[tmps.getD t undef, tmps.getD u undef, tmps.getD v undef, tmps.getD x undef]) w := by simp [results, h]

set_option maxRecDepth 100000 in
set_option maxHeartbeats 1000000 in
theorem readMh_ok (code b o n c : Nat) (d : List UInt8) (w : World) (hx : code < 9223372036854775808) (hd : d.length ≤ 2147483647) (hn : n = (mhB code d).length) (hnc : n ≤ c) (hs : Seg w b o (mhB code d)) :
    Calls Tryz.prog 121 #[.slice (some ⟨b, o, none⟩) n c] w fun e w' =>
      e = .returned (.tuple #[.int .i64 n, .int .u64 code, .slice (cutA b (o + (Lib.uvarint code).length) (c - (Lib.uvarint code).length) (Lib.uvarint d.length).length) d.length (c - (Lib.uvarint code).length - (Lib.uvarint d.length).length), .nilIface]) ∧ Drew w w' := by
  have hp := Lib.uvarint_pos code
  have hp2 := Lib.uvarint_pos d.length
  have hl1 := Lib.uvarint_length64 (x := code) (by omega)
  have hl2 := Lib.uvarint_length64 (x := d.length) (by omega)
  rw [mhB_length] at hn
  have HA := Lib.hid (mhUvarint_more code b o n c ((Lib.uvarint d.length).length + d.length) (Lib.uvarint d.length ++ d) w hx (by simp) (by omega) hnc (by omega) (by omega) hs)
  have HB := Lib.hid (fun W (hW : Drew w W) => mhUvarint_ok d.length b (o + (Lib.uvarint code).length) ((Lib.uvarint d.length).length + d.length) (c - (Lib.uvarint code).length) d W (by omega) rfl (by omega) (by omega) (hW.seg (Seg.right hs)))
  have HN := Lib.hid hn
  have hn2 : 2 ≤ n := by omega
  have hnb : n ≤ 2147483700 := by omega
  have hnd : d.length ≤ n := by omega
  have hcap : d.length ≤ c - (Lib.uvarint code).length - (Lib.uvarint d.length).length := by omega
  clear hx hs hn hl1 hl2
  go_enter Tryz.func121, Tryz.ntmps121
  go_wp2_with fail
  refine HA.out.mono ?_
  rintro e w1 ⟨rfl, hD1⟩
  go_wp2_with fail
  refine (HB.out w1 hD1).mono ?_
  rintro e w2 ⟨rfl, hD2⟩
  go_wp2_with fail
  go_quiet (fail)
  go_wp2_with fail
  all_goals
    refine bodyPost_ret (results_tmp4 rfl _ _ _) rfl ?_
    refine ⟨?_, (hD1.trans hD2).more _⟩
    rfl

/-- A slice value that is a digest: where it lies, if it has a byte. -/
def DgAt (A : Option Addr) (C b o : Nat) (d : List UInt8) : Prop := d.length ≤ C ∧ (0 < d.length → A = some ⟨b, o, none⟩)

/-- Where in a multihash the digest begins. -/
def mhO (code : Nat) (d : List UInt8) : Nat := (Lib.uvarint code).length + (Lib.uvarint d.length).length
theorem mhO_add (code : Nat) (d : List UInt8) : mhO code d + d.length = (mhB code d).length := by rw [mhB_length, mhO]
theorem mhB_dig {w : World} {b o code : Nat} {d : List UInt8} (h : Seg w b o (mhB code d)) : Seg w b (o + mhO code d) d := by
  have := (Seg.right (Seg.right h))
  exact this.cast (by rw [mhO]; omega)

theorem readMh_dg (code b o n c : Nat) (d : List UInt8) (w : World) (hx : code < 9223372036854775808) (hd : d.length ≤ 2147483647) (hn : n = (mhB code d).length) (hnc : n ≤ c) (hs : Seg w b o (mhB code d)) :
    Calls Tryz.prog 121 #[.slice (some ⟨b, o, none⟩) n c] w fun e w' =>
      ∃ A C, e = .returned (.tuple #[.int .i64 n, .int .u64 code, .slice A d.length C, .nilIface]) ∧ DgAt A C b (o + mhO code d) d ∧ Drew w w' := by
  refine (readMh_ok code b o n c d w hx hd hn hnc hs).mono fun e w' ⟨he, hD⟩ => ⟨_, _, he, ⟨?_, fun hp => ?_⟩, hD⟩
  · rw [mhB_length] at hn; omega
  · rw [mhB_length] at hn
    rw [cutA, if_neg (by omega), mhO, Nat.add_assoc]

set_option maxRecDepth 100000 in
set_option maxHeartbeats 1000000 in
theorem decode_ok (code b o n c : Nat) (d : List UInt8) (w : World) (hx : code < 9223372036854775808) (hd : d.length ≤ 2147483647) (hn : n = (mhB code d).length) (hnc : n ≤ c) (hs : Seg w b o (mhB code d)) (hb : b < w.heap.size) :
    Calls Tryz.prog 99 #[.slice (some ⟨b, o, none⟩) n c] w fun e w' =>
      ∃ A C, e = .returned (.tuple #[.agg #[.int .u64 code, .string ByteArray.empty, .int .i64 d.length, .slice A d.length C], .nilIface]) ∧ DgAt A C b (o + mhO code d) d ∧ Below w.heap.size w w' := by
  have HC := Lib.hid (fun W (h : Seg W b o (mhB code d)) => readMh_dg code b o n c d W hx hd hn hnc h)
  have HS := Lib.hid hs
  have HN := Lib.hid hn
  clear hx hs hn
  go_enter Tryz.func99, Tryz.ntmps99
  go_wp2_with fail
  refine (HC.out _ (HS.out.alloc hb _)).mono ?_
  rintro e w1 ⟨A, C, rfl, hdg, hD1⟩
  have HDG := Lib.hid hdg
  clear hdg
  have hz : w1.heap.size = w.heap.size + 1 := by rw [hD1.size]; simp
  have hB1 : Below w.heap.size w w1 := ((Below.refl _ w).alloc (Nat.le_refl _) _).trans (hD1.below _)
  have hk1 : Blk w1 w.heap.size 121 #[.int .u64 0, .string ByteArray.empty, .int .i64 0, .slice none 0 0] := hD1.blk (Blk.new _ _ _)
  have hc0 := hk1.cell 0
  have hc1 := hk1.cell 1
  have hc2 := hk1.cell 2
  have hc3 := hk1.cell 3
  simp at hc0 hc1 hc2 hc3
  have hf0 := hk1.frozen 0
  have hf1 := hk1.frozen 1
  have hf2 := hk1.frozen 2
  have hf3 := hk1.frozen 3
  have HK := Lib.hid hk1
  clear hk1 hz
  go_wp2_with fail
  refine bodyPost_ret (results_row_tmp rfl _ (HK.out.fill4.fill4) rfl Tryz.underlying121 rfl (by kernel_rfl)) rfl ⟨A, C, rfl, HDG.out, ?_⟩
  exact below_fill4 (below_fill4 hB1 (Nat.le_refl _)) (Nat.le_refl _)

/-- The struct that a decoded multihash lies in. -/
def dmh (code : Nat) (d : List UInt8) (A : Option Addr) (C : Nat) : Array Value := #[.int .u64 code, .string ByteArray.empty, .int .i64 d.length, .slice A d.length C]

set_option maxRecDepth 100000 in
set_option maxHeartbeats 1000000 in
theorem decodeP_ok (code b o n c : Nat) (d : List UInt8) (w : World) (hx : code < 9223372036854775808) (hd : d.length ≤ 2147483647) (hn : n = (mhB code d).length) (hnc : n ≤ c) (hs : Seg w b o (mhB code d)) (hb : b < w.heap.size) :
    Calls Tryz.prog 57 #[.slice (some ⟨b, o, none⟩) n c] w fun e w' =>
      ∃ A C g, e = .returned (.tuple #[.pointer (some ⟨g, 0, none⟩), .nilIface]) ∧ w.heap.size ≤ g ∧ Blk w' g 121 (dmh code d A C) ∧ DgAt A C b (o + mhO code d) d ∧ Below w.heap.size w w' := by
  have HC := Lib.hid (decode_ok code b o n c d w hx hd hn hnc hs hb)
  clear hx hs hn
  go_enter Tryz.func57, Tryz.ntmps57
  go_wp2_with fail
  refine HC.out.mono ?_
  rintro e w1 ⟨A, C, rfl, hdg, hB1⟩
  have HDG := Lib.hid hdg
  have HB := Lib.hid hB1
  clear hdg hB1
  go_wp2_with fail
  go_ret2
  exact ⟨A, C, w1.heap.size, rfl, HB.out.size, Blk.new _ _ _, HDG.out, HB.out.alloc HB.out.size _⟩
end Go.Proofs.YtcgggcjmmphldaaGreatDoor
