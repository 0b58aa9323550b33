/-
  DERIVED: THE SHELF's CONTRACTS AT THIS DUMP, IN PLAIN WORDS (tools/lay-plain.mjs out of 'TryzShelf.lean', which tools/lay-shelf.mjs wrote): THE SAME DECLARATIONS UNDER THE SAME NAMES: 'import', 'namespace', 'open', 'def', 'theorem' AND NOTHING ELSE: no command of the shelf's: FOR A HAND-IN. Each laying: the table of numbers ('.._ren') and one theorem, a field a fact of the dump's own or the kernel's comparison; each contract: ONE APPLICATION.
  DERIVED: THE SHELF's CONTRACTS AT THIS DUMP, IN PLAIN WORDS (tools/lay-plain.mjs out of 'TryzShelf.lean', which tools/lay-shelf.mjs wrote): THE SAME DECLARATIONS UNDER THE SAME NAMES: 'import', 'namespace', 'open', 'def', 'theorem' AND NOTHING ELSE: no command of the shelf's: FOR A HAND-IN. Each laying: the table of numbers ('.._ren') and one theorem, a field a fact of the dump's own or the kernel's comparison; each contract: ONE APPLICATION.
  binary.LittleEndian: numbers written into a stretch of a block that is known whole, and read out of bytes.
  digestRecord.write: a digest and its offset laid into a stretch of bytes.
  Writing into a bytes.Buffer: numbers, and an index's rows.
  singleWidthIndex.Marshal into a bytes.Buffer.
  (No condition beyond those that each theorem states.)
-/
import Derived.Ground.MnProg
import Derived.Shelf.Bin.LEUint32
import Derived.Shelf.Bin.LEPutUint32
import Derived.Shelf.Bin.LEUint64
import Derived.Shelf.Bin.LEPutUint64
import Derived.Test.YtcgggcjmmphldaaGreatDoorProg
import Derived.Shelf.LaysM
import Derived.Shelf.Bytes.String
import Derived.Shelf.Bytes.WriteKept
import Derived.Shelf.Bytes.BufferK
import Derived.Shelf.Bytes.WriteAny
import Derived.Test.YtcgggcjmmphldaaGreatDoorHa1
import Derived.Test.YtcgggcjmmphldaaGreatDoorHa4
import Derived.Test.YtcgggcjmmphldaaGreatDoorHb2
import Derived.Test.YtcgggcjmmphldaaGreatDoorHa7
import Derived.Laws.IdiomCopy
import Derived.Test.YtcgggcjmmphldaaGreatDoorHb4
import Derived.Lib.BufferOld
import Derived.Lib.BufferKept
import Derived.Deep.RegionHeld3
namespace Go.Proofs
open Go.Shelf
def Tryz.laysBin30_ren : Go.Shelf.Ren := ⟨fun | 30 => 212 | n => n, fun | 25 => 305 | 22 => 46 | 29 => 143 | 0 => 0 | 5 => 5 | 45 => 47 | n => n, fun | n => n⟩
theorem Tryz.laysBin30 : Go.Proofs.LaysBin.n30 Tryz.prog Tryz.laysBin30_ren := {
  mixed := by kernel_rfl
  f30 := Tryz.func212.trans (congrArg some (by kernel_rfl))
  t0 := Tryz.underlying0
  a0 := Tryz.isAgg0
  z0 := Tryz.sizeOf0
  v0 := Tryz.zeroValue0
  i0 := by kernel_rfl
  t5 := Tryz.underlying5
  a5 := Tryz.isAgg5
  z5 := Tryz.sizeOf5
  v5 := Tryz.zeroValue5
  i5 := by kernel_rfl
  t22 := Tryz.underlying46
  a22 := Tryz.isAgg46
  z22 := Tryz.sizeOf46
  v22 := Tryz.zeroValue46
  i22 := by kernel_rfl
  t25 := Tryz.underlying305
  a25 := Tryz.isAgg305
  z25 := Tryz.sizeOf305
  v25 := Tryz.zeroValue305
  i25 := by kernel_rfl
  t29 := Tryz.underlying143
  a29 := Tryz.isAgg143
  z29 := Tryz.sizeOf143
  v29 := Tryz.zeroValue143
  i29 := by kernel_rfl
  t45 := Tryz.underlying47
  a45 := Tryz.isAgg47
  z45 := Tryz.sizeOf47
  v45 := Tryz.zeroValue47
  i45 := by kernel_rfl }
open Go.RowKit in
/-- binary.LittleEndian.Uint32: "Uint32 returns the uint32 representation of b[0:4].": THE NUMBER THAT THE FIRST 4 BYTES SPELL, the least byte first ('Lib.leNat'). Of what was there nothing has turned (the receiver, an empty struct, is laid in a new block without cells; the statement's order is drawn). (LAID: no walk: one application.) -/
theorem Tryz.binary_LE_Uint32 (g o n c : Nat) (b0 b1 b2 b3 : UInt8) (w : World) (hn : 4 ≤ n) (c0 : w.cell? ⟨g, o, none⟩ = some (.int .u8 b0.toNat)) (c1 : w.cell? ⟨g, o + 1, none⟩ = some (.int .u8 b1.toNat)) (c2 : w.cell? ⟨g, o + 2, none⟩ = some (.int .u8 b2.toNat)) (c3 : w.cell? ⟨g, o + 3, none⟩ = some (.int .u8 b3.toNat)) :
    Calls Tryz.prog 212 #[.agg #[], .slice (some ⟨g, o, none⟩) n c] w fun e w' => e = .returned (.int .u32 (Lib.leNat [b0, b1, b2, b3])) ∧ Below w.heap.size w w' := Any.binary_LE_Uint32 Tryz.laysBin30 g o n c b0 b1 b2 b3 w hn c0 c1 c2 c3
def Tryz.laysBin31_ren : Go.Shelf.Ren := ⟨fun | 31 => 208 | n => n, fun | 25 => 305 | 22 => 46 | 29 => 143 | 0 => 0 | 5 => 5 | 45 => 47 | n => n, fun | n => n⟩
theorem Tryz.laysBin31 : Go.Proofs.LaysBin.n31 Tryz.prog Tryz.laysBin31_ren := {
  mixed := by kernel_rfl
  f31 := Tryz.func208.trans (congrArg some (by kernel_rfl))
  t0 := Tryz.underlying0
  a0 := Tryz.isAgg0
  z0 := Tryz.sizeOf0
  v0 := Tryz.zeroValue0
  i0 := by kernel_rfl
  t5 := Tryz.underlying5
  a5 := Tryz.isAgg5
  z5 := Tryz.sizeOf5
  v5 := Tryz.zeroValue5
  i5 := by kernel_rfl
  t22 := Tryz.underlying46
  a22 := Tryz.isAgg46
  z22 := Tryz.sizeOf46
  v22 := Tryz.zeroValue46
  i22 := by kernel_rfl
  t25 := Tryz.underlying305
  a25 := Tryz.isAgg305
  z25 := Tryz.sizeOf305
  v25 := Tryz.zeroValue305
  i25 := by kernel_rfl
  t29 := Tryz.underlying143
  a29 := Tryz.isAgg143
  z29 := Tryz.sizeOf143
  v29 := Tryz.zeroValue143
  i29 := by kernel_rfl
  t45 := Tryz.underlying47
  a45 := Tryz.isAgg47
  z45 := Tryz.sizeOf47
  v45 := Tryz.zeroValue47
  i45 := by kernel_rfl }
open Go.RowKit in
/-- binary.LittleEndian.PutUint32: "PutUint32 stores v into b[0:4].": v's 4 BYTES, the least first ('Lib.leBytes 4 v'), ARE LAID IN THE SLICE's FIRST 4 CELLS ('World.setCells'); nothing else turns (the receiver, an empty struct, is laid in a new block without cells). (LAID: no walk: one application.) -/
theorem Tryz.binary_LE_PutUint32 (g o n c v : Nat) (hv : v < 4294967296) (x0 x1 x2 x3 : Value) (w : World) (hn : 4 ≤ n) (c0 : w.cell? ⟨g, o, none⟩ = some x0) (c1 : w.cell? ⟨g, o + 1, none⟩ = some x1) (c2 : w.cell? ⟨g, o + 2, none⟩ = some x2) (c3 : w.cell? ⟨g, o + 3, none⟩ = some x3) (f0 : w.frozen? ⟨g, o, none⟩ = false) (f1 : w.frozen? ⟨g, o + 1, none⟩ = false) (f2 : w.frozen? ⟨g, o + 2, none⟩ = false) (f3 : w.frozen? ⟨g, o + 3, none⟩ = false) :
    Calls Tryz.prog 208 #[.agg #[], .slice (some ⟨g, o, none⟩) n c, .int .u32 v] w fun e w' => e = .returned (.tuple #[]) ∧ w' = (w.alloc (.cells #[] 305)).setCells g o (Lib.byteCells (Lib.leBytes 4 v)) := Any.binary_LE_PutUint32 Tryz.laysBin31 g o n c v hv x0 x1 x2 x3 w hn c0 c1 c2 c3 f0 f1 f2 f3
def Tryz.laysBin33_ren : Go.Shelf.Ren := ⟨fun | 33 => 231 | n => n, fun | 25 => 305 | 22 => 46 | 33 => 23 | 0 => 0 | 5 => 5 | 45 => 47 | n => n, fun | n => n⟩
theorem Tryz.laysBin33 : Go.Proofs.LaysBin.n33 Tryz.prog Tryz.laysBin33_ren := {
  mixed := by kernel_rfl
  f33 := Tryz.func231.trans (congrArg some (by kernel_rfl))
  t0 := Tryz.underlying0
  a0 := Tryz.isAgg0
  z0 := Tryz.sizeOf0
  v0 := Tryz.zeroValue0
  i0 := by kernel_rfl
  t5 := Tryz.underlying5
  a5 := Tryz.isAgg5
  z5 := Tryz.sizeOf5
  v5 := Tryz.zeroValue5
  i5 := by kernel_rfl
  t22 := Tryz.underlying46
  a22 := Tryz.isAgg46
  z22 := Tryz.sizeOf46
  v22 := Tryz.zeroValue46
  i22 := by kernel_rfl
  t25 := Tryz.underlying305
  a25 := Tryz.isAgg305
  z25 := Tryz.sizeOf305
  v25 := Tryz.zeroValue305
  i25 := by kernel_rfl
  t33 := Tryz.underlying23
  a33 := Tryz.isAgg23
  z33 := Tryz.sizeOf23
  v33 := Tryz.zeroValue23
  i33 := by kernel_rfl
  t45 := Tryz.underlying47
  a45 := Tryz.isAgg47
  z45 := Tryz.sizeOf47
  v45 := Tryz.zeroValue47
  i45 := by kernel_rfl }
open Go.RowKit in
/-- binary.LittleEndian.Uint64: "Uint64 returns the uint64 representation of b[0:8].": THE NUMBER THAT THE FIRST 8 BYTES SPELL, the least byte first ('Lib.leNat'). Of what was there nothing has turned (the receiver, an empty struct, is laid in a new block without cells; the statement's order is drawn). (LAID: no walk: one application.) -/
theorem Tryz.binary_LE_Uint64 (g o n c : Nat) (b0 b1 b2 b3 b4 b5 b6 b7 : UInt8) (w : World) (hn : 8 ≤ n) (c0 : w.cell? ⟨g, o, none⟩ = some (.int .u8 b0.toNat)) (c1 : w.cell? ⟨g, o + 1, none⟩ = some (.int .u8 b1.toNat)) (c2 : w.cell? ⟨g, o + 2, none⟩ = some (.int .u8 b2.toNat)) (c3 : w.cell? ⟨g, o + 3, none⟩ = some (.int .u8 b3.toNat)) (c4 : w.cell? ⟨g, o + 4, none⟩ = some (.int .u8 b4.toNat)) (c5 : w.cell? ⟨g, o + 5, none⟩ = some (.int .u8 b5.toNat)) (c6 : w.cell? ⟨g, o + 6, none⟩ = some (.int .u8 b6.toNat)) (c7 : w.cell? ⟨g, o + 7, none⟩ = some (.int .u8 b7.toNat)) :
    Calls Tryz.prog 231 #[.agg #[], .slice (some ⟨g, o, none⟩) n c] w fun e w' => e = .returned (.int .u64 (Lib.leNat [b0, b1, b2, b3, b4, b5, b6, b7])) ∧ Below w.heap.size w w' := Any.binary_LE_Uint64 Tryz.laysBin33 g o n c b0 b1 b2 b3 b4 b5 b6 b7 w hn c0 c1 c2 c3 c4 c5 c6 c7
def Tryz.laysBin34_ren : Go.Shelf.Ren := ⟨fun | 34 => 233 | n => n, fun | 25 => 305 | 22 => 46 | 33 => 23 | 0 => 0 | 5 => 5 | 45 => 47 | n => n, fun | n => n⟩
theorem Tryz.laysBin34 : Go.Proofs.LaysBin.n34 Tryz.prog Tryz.laysBin34_ren := {
  mixed := by kernel_rfl
  f34 := Tryz.func233.trans (congrArg some (by kernel_rfl))
  t0 := Tryz.underlying0
  a0 := Tryz.isAgg0
  z0 := Tryz.sizeOf0
  v0 := Tryz.zeroValue0
  i0 := by kernel_rfl
  t5 := Tryz.underlying5
  a5 := Tryz.isAgg5
  z5 := Tryz.sizeOf5
  v5 := Tryz.zeroValue5
  i5 := by kernel_rfl
  t22 := Tryz.underlying46
  a22 := Tryz.isAgg46
  z22 := Tryz.sizeOf46
  v22 := Tryz.zeroValue46
  i22 := by kernel_rfl
  t25 := Tryz.underlying305
  a25 := Tryz.isAgg305
  z25 := Tryz.sizeOf305
  v25 := Tryz.zeroValue305
  i25 := by kernel_rfl
  t33 := Tryz.underlying23
  a33 := Tryz.isAgg23
  z33 := Tryz.sizeOf23
  v33 := Tryz.zeroValue23
  i33 := by kernel_rfl
  t45 := Tryz.underlying47
  a45 := Tryz.isAgg47
  z45 := Tryz.sizeOf47
  v45 := Tryz.zeroValue47
  i45 := by kernel_rfl }
open Go.RowKit in
/-- binary.LittleEndian.PutUint64: "PutUint64 stores v into b[0:8].": v's 8 BYTES, the least first ('Lib.leBytes 8 v'), ARE LAID IN THE SLICE's FIRST 8 CELLS ('World.setCells'); nothing else turns (the receiver, an empty struct, is laid in a new block without cells). (LAID: no walk: one application.) -/
theorem Tryz.binary_LE_PutUint64 (g o n c v : Nat) (hv : v < 18446744073709551616) (x0 x1 x2 x3 x4 x5 x6 x7 : Value) (w : World) (hn : 8 ≤ n) (c0 : w.cell? ⟨g, o, none⟩ = some x0) (c1 : w.cell? ⟨g, o + 1, none⟩ = some x1) (c2 : w.cell? ⟨g, o + 2, none⟩ = some x2) (c3 : w.cell? ⟨g, o + 3, none⟩ = some x3) (c4 : w.cell? ⟨g, o + 4, none⟩ = some x4) (c5 : w.cell? ⟨g, o + 5, none⟩ = some x5) (c6 : w.cell? ⟨g, o + 6, none⟩ = some x6) (c7 : w.cell? ⟨g, o + 7, none⟩ = some x7) (f0 : w.frozen? ⟨g, o, none⟩ = false) (f1 : w.frozen? ⟨g, o + 1, none⟩ = false) (f2 : w.frozen? ⟨g, o + 2, none⟩ = false) (f3 : w.frozen? ⟨g, o + 3, none⟩ = false) (f4 : w.frozen? ⟨g, o + 4, none⟩ = false) (f5 : w.frozen? ⟨g, o + 5, none⟩ = false) (f6 : w.frozen? ⟨g, o + 6, none⟩ = false) (f7 : w.frozen? ⟨g, o + 7, none⟩ = false) :
    Calls Tryz.prog 233 #[.agg #[], .slice (some ⟨g, o, none⟩) n c, .int .u64 v] w fun e w' => e = .returned (.tuple #[]) ∧ w' = (w.alloc (.cells #[] 305)).setCells g o (Lib.byteCells (Lib.leBytes 8 v)) := Any.binary_LE_PutUint64 Tryz.laysBin34 g o n c v hv x0 x1 x2 x3 x4 x5 x6 x7 w hn c0 c1 c2 c3 c4 c5 c6 c7 f0 f1 f2 f3 f4 f5 f6 f7
end Go.Proofs
namespace Go.Proofs
open Go.Shelf
def Tryz.laysM182_ren : Go.Shelf.Ren := ⟨fun | 182 => 66 | n => n, fun | 130 => 137 | 9 => 9 | 4 => 4 | 0 => 0 | 93 => 134 | 37 => 46 | 3 => 3 | 91 => 132 | 5 => 5 | n => n, fun | n => n⟩
theorem Tryz.laysM182 : Go.Proofs.LaysM.n182 Tryz.prog Tryz.laysM182_ren := {
  mixed := by kernel_rfl
  f182 := Tryz.func66.trans (congrArg some (by kernel_rfl))
  t0 := Tryz.underlying0
  a0 := Tryz.isAgg0
  z0 := Tryz.sizeOf0
  v0 := Tryz.zeroValue0
  t3 := Tryz.underlying3
  a3 := Tryz.isAgg3
  z3 := Tryz.sizeOf3
  v3 := Tryz.zeroValue3
  t4 := Tryz.underlying4
  a4 := Tryz.isAgg4
  z4 := Tryz.sizeOf4
  v4 := Tryz.zeroValue4
  t9 := Tryz.underlying9
  a9 := Tryz.isAgg9
  z9 := Tryz.sizeOf9
  v9 := Tryz.zeroValue9
  t37 := Tryz.underlying46
  a37 := Tryz.isAgg46
  z37 := Tryz.sizeOf46
  v37 := Tryz.zeroValue46
  t93 := Tryz.underlying134
  a93 := Tryz.isAgg134
  z93 := Tryz.sizeOf134
  v93 := Tryz.zeroValue134
  t130 := Tryz.underlying137
  a130 := Tryz.isAgg137
  z130 := Tryz.sizeOf137
  v130 := Tryz.zeroValue137
  t5 := Tryz.underlying5
  a5 := Tryz.isAgg5
  z5 := Tryz.sizeOf5
  v5 := Tryz.zeroValue5
  t91 := Tryz.underlying132
  a91 := Tryz.isAgg132
  z91 := Tryz.sizeOf132
  v91 := Tryz.zeroValue132
  i0 := by kernel_rfl
  i3 := by kernel_rfl
  i4 := by kernel_rfl
  i5 := by kernel_rfl
  i9 := by kernel_rfl
  i37 := by kernel_rfl
  i91 := by kernel_rfl
  i93 := by kernel_rfl
  i130 := by kernel_rfl }
open Go.RowKit in
/-- (*bytes.Buffer).String: "String returns the contents of the unread portion of the buffer as a string.": THE BYTES THAT WERE WRITTEN. The world is as it was but for the count of draws (the statement has two reads: its order is drawn). (LAID: no walk: one application.) -/
theorem Tryz.Buffer_String (B b : Nat) (l : List UInt8) (w : World) (h : Lib.IsBuffer 134 5 B b (Lib.byteCells l) w) :
    Calls Tryz.prog 66 #[.pointer (some ⟨b, 0, none⟩)] w fun e w' => e = .returned (.string ⟨l.toArray⟩) ∧ ∃ n, w' = w.drewN n := Any.Buffer_String Tryz.laysM182 B b l w h
def Tryz.laysM180_ren : Go.Shelf.Ren := ⟨fun | 180 => 276 | 251 => 278 | 252 => 279 | 181 => 272 | 184 => 275 | 290 => 280 | 324 => 281 | n => n, fun | 130 => 137 | 37 => 46 | 3 => 3 | 75 => 68 | 0 => 0 | 93 => 134 | 91 => 132 | 131 => 151 | 4 => 4 | 20 => 20 | 5 => 5 | 80 => 138 | 9 => 9 | n => n, fun | 14 => 14 | n => n⟩
theorem Tryz.laysM180 : Go.Proofs.LaysM.n180 Tryz.prog Tryz.laysM180_ren := {
  mixed := by kernel_rfl
  f180 := Tryz.func276.trans (congrArg some (by kernel_rfl))
  f181 := Tryz.func272.trans (congrArg some (by kernel_rfl))
  f184 := Tryz.func275.trans (congrArg some (by kernel_rfl))
  f251 := Tryz.func278.trans (congrArg some (by kernel_rfl))
  f252 := Tryz.func279.trans (congrArg some (by kernel_rfl))
  f290 := Tryz.func280.trans (congrArg some (by kernel_rfl))
  f324 := Tryz.func281.trans (congrArg some (by kernel_rfl))
  t0 := Tryz.underlying0
  a0 := Tryz.isAgg0
  z0 := Tryz.sizeOf0
  v0 := Tryz.zeroValue0
  t3 := Tryz.underlying3
  a3 := Tryz.isAgg3
  z3 := Tryz.sizeOf3
  v3 := Tryz.zeroValue3
  t4 := Tryz.underlying4
  a4 := Tryz.isAgg4
  z4 := Tryz.sizeOf4
  v4 := Tryz.zeroValue4
  t20 := Tryz.underlying20
  a20 := Tryz.isAgg20
  z20 := Tryz.sizeOf20
  v20 := Tryz.zeroValue20
  t37 := Tryz.underlying46
  a37 := Tryz.isAgg46
  z37 := Tryz.sizeOf46
  v37 := Tryz.zeroValue46
  t75 := Tryz.underlying68
  a75 := Tryz.isAgg68
  z75 := Tryz.sizeOf68
  v75 := Tryz.zeroValue68
  t91 := Tryz.underlying132
  a91 := Tryz.isAgg132
  z91 := Tryz.sizeOf132
  v91 := Tryz.zeroValue132
  t93 := Tryz.underlying134
  a93 := Tryz.isAgg134
  z93 := Tryz.sizeOf134
  v93 := Tryz.zeroValue134
  t130 := Tryz.underlying137
  a130 := Tryz.isAgg137
  z130 := Tryz.sizeOf137
  v130 := Tryz.zeroValue137
  t131 := Tryz.underlying151
  a131 := Tryz.isAgg151
  z131 := Tryz.sizeOf151
  v131 := Tryz.zeroValue151
  g14 := by kernel_rfl
  t5 := Tryz.underlying5
  a5 := Tryz.isAgg5
  z5 := Tryz.sizeOf5
  v5 := Tryz.zeroValue5
  t9 := Tryz.underlying9
  a9 := Tryz.isAgg9
  z9 := Tryz.sizeOf9
  v9 := Tryz.zeroValue9
  t80 := Tryz.underlying138
  a80 := Tryz.isAgg138
  z80 := Tryz.sizeOf138
  v80 := Tryz.zeroValue138
  i0 := by kernel_rfl
  i3 := by kernel_rfl
  i4 := by kernel_rfl
  i5 := by kernel_rfl
  i9 := by kernel_rfl
  i20 := by kernel_rfl
  i37 := by kernel_rfl
  i75 := by kernel_rfl
  i80 := by kernel_rfl
  i91 := by kernel_rfl
  i93 := by kernel_rfl
  i130 := by kernel_rfl
  i131 := by kernel_rfl
  m14 := by kernel_rfl }
open Go.RowKit in
/-- (*bytes.Buffer).Write: "Write appends the contents of p to the buffer, growing the buffer as needed. The return value n is the length of p; err is always nil." (LAID: no walk: one application.) -/
theorem Tryz.Buffer_Write_kept (B b : Nat) (bs cs : List Value) (a : Addr) (n c : Nat) (w : World) (h : Lib.IsBuffer 134 5 B b bs w) (hBw : B ≤ w.heap.size) (h1 : ∀ v ∈ bs, v.oneCell' = true) (hn : cs.length = n) (haB : a.block < B) (hsrc : ∀ j v, cs[j]? = some v → w.cell? (a.add j) = some v) (h1c : ∀ v ∈ cs, v.oneCell' = true) (hlim : bs.length + n ≤ 140737488355328) :
    Calls Tryz.prog 276 #[.pointer (some ⟨b, 0, none⟩), .slice (some a) n c] w fun e w' => e = .returned (.tuple #[.int .i64 n, .nilIface]) ∧ Lib.IsBuffer 134 5 B b (bs ++ cs) w' ∧ Below B w w' ∧ Lib.OthersKept 5 (some b) w w' := Any.Buffer_Write_kept Tryz.laysM180 B b bs cs a n c w h hBw h1 hn haB hsrc h1c hlim
open Go.RowKit in
theorem Tryz.Buffer_Write_k (B b : Nat) (bs cs : List Value) (a : Addr) (n c : Nat) (w : World) (h : Lib.IsBuffer 134 5 B b bs w) (hBw : B ≤ w.heap.size) (h1 : ∀ v ∈ bs, v.oneCell' = true) (hn : cs.length = n) (haB : a.block < B) (hsrc : ∀ j v, cs[j]? = some v → w.cell? (a.add j) = some v) (h1c : ∀ v ∈ cs, v.oneCell' = true) (hlim : bs.length + n ≤ 140737488355328) :
    Calls Tryz.prog 276 #[.pointer (some ⟨b, 0, none⟩), .slice (some a) n c] w fun e w' => e = .returned (.tuple #[.int .i64 n, .nilIface]) ∧ Lib.IsBuffer 134 5 B b (bs ++ cs) w' ∧ Below B w w' ∧ Lib.OthersKept 5 (some b) w w' := Any.Buffer_Write_k Tryz.laysM180 B b bs cs a n c w h hBw h1 hn haB hsrc h1c hlim
def Tryz.laysM184_ren : Go.Shelf.Ren := ⟨fun | 184 => 275 | n => n, fun | 130 => 137 | 0 => 0 | 93 => 134 | 37 => 46 | 3 => 3 | 91 => 132 | 5 => 5 | n => n, fun | n => n⟩
theorem Tryz.laysM184 : Go.Proofs.LaysM.n184 Tryz.prog Tryz.laysM184_ren := {
  mixed := by kernel_rfl
  f184 := Tryz.func275.trans (congrArg some (by kernel_rfl))
  t0 := Tryz.underlying0
  a0 := Tryz.isAgg0
  z0 := Tryz.sizeOf0
  v0 := Tryz.zeroValue0
  t3 := Tryz.underlying3
  a3 := Tryz.isAgg3
  z3 := Tryz.sizeOf3
  v3 := Tryz.zeroValue3
  t37 := Tryz.underlying46
  a37 := Tryz.isAgg46
  z37 := Tryz.sizeOf46
  v37 := Tryz.zeroValue46
  t91 := Tryz.underlying132
  a91 := Tryz.isAgg132
  z91 := Tryz.sizeOf132
  v91 := Tryz.zeroValue132
  t93 := Tryz.underlying134
  a93 := Tryz.isAgg134
  z93 := Tryz.sizeOf134
  v93 := Tryz.zeroValue134
  t130 := Tryz.underlying137
  a130 := Tryz.isAgg137
  z130 := Tryz.sizeOf137
  v130 := Tryz.zeroValue137
  t5 := Tryz.underlying5
  a5 := Tryz.isAgg5
  z5 := Tryz.sizeOf5
  v5 := Tryz.zeroValue5
  i0 := by kernel_rfl
  i3 := by kernel_rfl
  i5 := by kernel_rfl
  i37 := by kernel_rfl
  i91 := by kernel_rfl
  i93 := by kernel_rfl
  i130 := by kernel_rfl }
open Go.RowKit in
theorem Tryz.Buffer_Reset_k (B b : Nat) (bs : List Value) (w : World) (h : Lib.IsBuffer 134 5 B b bs w) :
    Calls Tryz.prog 275 #[.pointer (some ⟨b, 0, none⟩)] w fun e w' => e = .returned (.tuple #[]) ∧ Lib.IsBuffer 134 5 B b [] w' ∧ Below B w w' ∧ Lib.OthersKept 5 (some b) w w' := Any.Buffer_Reset_k Tryz.laysM184 B b bs w h
open Go.RowKit in
/-- (*bytes.Buffer).Write: "Write appends the contents of p to the buffer, growing the buffer as needed. The return value n is the length of p; err is always nil." (LAID: no walk: one application.) -/
theorem Tryz.Buffer_Write_any (B b : Nat) (bs cs : List Value) (a : Addr) (n c : Nat) (w : World) (h : Lib.IsBuffer 134 5 B b bs w) (hBw : B ≤ w.heap.size) (h1 : ∀ v ∈ bs, v.oneCell' = true) (hn : cs.length = n) (hab : a.block ≠ b) (hsrc : ∀ j v, cs[j]? = some v → w.cell? (a.add j) = some v) (h1c : ∀ v ∈ cs, v.oneCell' = true) (hlim : bs.length + n ≤ 140737488355328) :
    Calls Tryz.prog 276 #[.pointer (some ⟨b, 0, none⟩), .slice (some a) n c] w fun e w' => e = .returned (.tuple #[.int .i64 n, .nilIface]) ∧ Lib.IsBuffer 134 5 B b (bs ++ cs) w' ∧ Below B w w' ∧ Lib.OthersKept 5 (some b) w w' := Any.Buffer_Write_any Tryz.laysM180 B b bs cs a n c w h hBw h1 hn hab hsrc h1c hlim
end Go.Proofs
namespace Go.Proofs.YtcgggcjmmphldaaGreatDoor
open Go.RowKit

theorem blk_parts {w : World} {g o : Nat} {t : TypeId} {pre mid post : List Value} (hb : Blk w g t (pre ++ (mid ++ post)).toArray) (hp : pre.length = o) (j : Nat) (hj : j < mid.length) :
    w.cell? ⟨g, o + j, none⟩ = some mid[j] ∧ w.frozen? ⟨g, o + j, none⟩ = false := by
  refine ⟨?_, hb.frozen _⟩
  rw [hb.cell, List.getElem?_toArray, List.getElem?_append_right (by omega), List.getElem?_append_left (by omega)]
  simp [← hp, hj]

theorem off_setCells (g : Nat) : ∀ (vs : List Value) (o : Nat) (w : World), Off [g] w (w.setCells g o vs)
  | [], _, w => Off.refl [g] w
  | v :: vs, o, w => by
    show Off [g] w ((w.setCell ⟨g, o, none⟩ v).setCells g (o + 1) vs)
    exact ((Off.refl [g] w).setCell (p := ⟨g, o, none⟩) (Or.inl (List.mem_singleton.2 rfl)) v).then (off_setCells g vs (o + 1) _) (fun x hx => Or.inl hx)

theorem putLE32_blk (g o n c v : Nat) (t : TypeId) (pre mid post : List Value) (hv : v < 4294967296) (w : World) (hn : 4 ≤ n) (hp : pre.length = o) (hm : mid.length = 4) (hb : Blk w g t (pre ++ (mid ++ post)).toArray) :
    Calls Tryz.prog 208 #[.agg #[], .slice (some ⟨g, o, none⟩) n c, .int .u32 v] w fun e w' => e = .returned (.tuple #[]) ∧ Blk w' g t (pre ++ (Lib.byteCells (Lib.leBytes 4 v) ++ post)).toArray ∧ Off [g] w w' := by
  have h := fun j hj => blk_parts hb hp j hj
  refine (Tryz.binary_LE_PutUint32 g o n c v hv _ _ _ _ w hn (h 0 (by omega)).1 (h 1 (by omega)).1 (h 2 (by omega)).1 (h 3 (by omega)).1 (h 0 (by omega)).2 (h 1 (by omega)).2 (h 2 (by omega)).2 (h 3 (by omega)).2).mono ?_
  rintro e w' ⟨he, rfl⟩
  exact ⟨he, Blk.setCells _ o _ pre mid post hp (by rw [hm]; rfl) (hb.alloc _), (Off.alloc (Off.refl [g] w) _).then (off_setCells g _ o _) (fun x hx => Or.inl hx)⟩

theorem putLE64_blk (g o n c v : Nat) (t : TypeId) (pre mid post : List Value) (hv : v < 18446744073709551616) (w : World) (hn : 8 ≤ n) (hp : pre.length = o) (hm : mid.length = 8) (hb : Blk w g t (pre ++ (mid ++ post)).toArray) :
    Calls Tryz.prog 233 #[.agg #[], .slice (some ⟨g, o, none⟩) n c, .int .u64 v] w fun e w' => e = .returned (.tuple #[]) ∧ Blk w' g t (pre ++ (Lib.byteCells (Lib.leBytes 8 v) ++ post)).toArray ∧ Off [g] w w' := by
  have h := fun j hj => blk_parts hb hp j hj
  refine (Tryz.binary_LE_PutUint64 g o n c v hv _ _ _ _ _ _ _ _ w hn (h 0 (by omega)).1 (h 1 (by omega)).1 (h 2 (by omega)).1 (h 3 (by omega)).1 (h 4 (by omega)).1 (h 5 (by omega)).1 (h 6 (by omega)).1 (h 7 (by omega)).1
    (h 0 (by omega)).2 (h 1 (by omega)).2 (h 2 (by omega)).2 (h 3 (by omega)).2 (h 4 (by omega)).2 (h 5 (by omega)).2 (h 6 (by omega)).2 (h 7 (by omega)).2).mono ?_
  rintro e w' ⟨he, rfl⟩
  exact ⟨he, Blk.setCells _ o _ pre mid post hp (by rw [hm]; rfl) (hb.alloc _), (Off.alloc (Off.refl [g] w) _).then (off_setCells g _ o _) (fun x hx => Or.inl hx)⟩

theorem uintLE32_seg (g o n c v : Nat) (hv : v < 4294967296) (w : World) (hn : 4 ≤ n) (hs : Seg w g o (Lib.leBytes 4 v)) :
    Calls Tryz.prog 212 #[.agg #[], .slice (some ⟨g, o, none⟩) n c] w fun e w' => e = .returned (.int .u32 v) ∧ Below w.heap.size w w' := by
  obtain ⟨b0, b1, b2, b3, hl⟩ : ∃ b0 b1 b2 b3, Lib.leBytes 4 v = [b0, b1, b2, b3] := ⟨_, _, _, _, rfl⟩
  have hv' := Lib.leNat_leBytes 4 v (by omega)
  rw [hl] at hs hv'
  refine (Tryz.binary_LE_Uint32 g o n c b0 b1 b2 b3 w hn (hs 0 (by simp)) (hs 1 (by simp)) (hs 2 (by simp)) (hs 3 (by simp))).mono ?_
  rintro e w' ⟨he, hw⟩
  rw [hv'] at he
  exact ⟨he, hw⟩

theorem uintLE64_seg (g o n c v : Nat) (hv : v < 18446744073709551616) (w : World) (hn : 8 ≤ n) (hs : Seg w g o (Lib.leBytes 8 v)) :
    Calls Tryz.prog 231 #[.agg #[], .slice (some ⟨g, o, none⟩) n c] w fun e w' => e = .returned (.int .u64 v) ∧ Below w.heap.size w w' := by
  obtain ⟨b0, b1, b2, b3, b4, b5, b6, b7, hl⟩ : ∃ b0 b1 b2 b3 b4 b5 b6 b7, Lib.leBytes 8 v = [b0, b1, b2, b3, b4, b5, b6, b7] := ⟨_, _, _, _, _, _, _, _, rfl⟩
  have hv' := Lib.leNat_leBytes 8 v (by omega)
  rw [hl] at hs hv'
  refine (Tryz.binary_LE_Uint64 g o n c b0 b1 b2 b3 b4 b5 b6 b7 w hn (hs 0 (by simp)) (hs 1 (by simp)) (hs 2 (by simp)) (hs 3 (by simp)) (hs 4 (by simp)) (hs 5 (by simp)) (hs 6 (by simp)) (hs 7 (by simp))).mono ?_
  rintro e w' ⟨he, hw⟩
  rw [hv'] at he
  exact ⟨he, hw⟩
end Go.Proofs.YtcgggcjmmphldaaGreatDoor
namespace Go.Proofs.YtcgggcjmmphldaaGreatDoor
open Go.RowKit

/-- 'copy' of bytes that a slice reads as, into a row that is known whole: a step of a region that draws. The source may be empty, its pointer nil. -/
theorem step_copyD {P : Program} {ops : Array Oper} {o : Oper} {A : Act} {w : World} {K : Act → World → Prop} {Q : Exit → Act → World → Prop} {E : Prop} (hgd : o.guard = none) (d s : Operand) (dT sT : TypeId)
    (ho : o.op = .call { callee := .builtin .copy, args := #[d, s], argTypes := #[dT, sT] }) (elem : TypeId) (hu : P.underlying dT = some (.slice elem)) (hsz : (P.info? elem).map (·.size) = some 1)
    (g off : Nat) (t : TypeId) (pre mid post : List Value) (hg : Blk w g t (pre ++ (mid ++ post)).toArray) (hp : pre.length = off) (l : List UInt8) (hm : mid.length = l.length) (v : Value) (hv : DgIn w v l) (dLen dCap : Nat) (hfit : l.length ≤ dLen)
    (hd : A.eval d = .slice (some ⟨g, off, none⟩) dLen dCap) (hs : A.eval s = v) (N : Nat) (hN : N = l.length)
    (h : ∀ w', Hid (Blk w' g t (pre ++ (Lib.byteCells l ++ post)).toArray) → Hid (Off [g] w w') → K (A.put o.dst (.int .i64 (N : Int))) w') :
    if Region.wanted o (yielded ops A.tmps) = true then Oper.wp P o A w K Q else E := by
  subst hN
  obtain ⟨B, C, b, ob, rfl, hB, hseg⟩ := hv
  rcases Nat.eq_zero_or_pos l.length with h0 | h0
  · obtain rfl : l = [] := List.eq_nil_of_length_eq_zero h0
    obtain rfl : mid = [] := List.eq_nil_of_length_eq_zero (by rw [hm]; rfl)
    have hw : Region.wanted o (yielded ops A.tmps) = true := by simp [Region.wanted, hgd]
    rw [if_pos hw]
    have hrun := run_copy_none (P := P) w dT sT o.type elem (some ⟨g, off, none⟩) B dLen dCap 0 C hu hsz (by simp)
    unfold Oper.wp
    simp [execOp, ho, resolve, invoke, builtin, hd, hs, hrun, Result.andThen]
    exact h _ (Lib.hid hg) (Lib.hid (Off.refl [g] w))
  · rw [hB h0] at hs
    have hl : (pre ++ (mid ++ post)).length = off + l.length + post.length := by simp [hp, hm]; omega
    refine step_copyO hgd d s dT sT ho elem hu hsz g off (pre ++ (mid ++ post)) t hg (Lib.byteCells l) (by rw [Lib.byteCells_length, hl]; omega) (byteCells_one _) dLen dCap l.length C ⟨b, ob, none⟩ hd hs
      (by rw [Lib.byteCells_length]; exact (Nat.min_eq_left hfit).symm) hseg.cells l.length (by rw [Lib.byteCells_length]) ?_
    intro w' hw1 hw2
    refine h w' (Lib.hid ?_) hw2
    have := hw1.out
    rwa [show splice (pre ++ (mid ++ post)) off (Lib.byteCells l) = pre ++ (Lib.byteCells l ++ post) by
      unfold splice
      rw [List.take_left' hp, Lib.byteCells_length, ← hp, ← hm, ← List.append_assoc pre mid post, ← List.length_append, List.drop_left]] at this

set_option maxRecDepth 100000 in
set_option maxHeartbeats 400000 in
theorem drWrite_any (r : DR) (gb ob c n : Nat) (t : TypeId) (pre mid post : List Value) (w : World) (hv : DgIn w r.v r.d) (hoff : r.off < 18446744073709551616) (hn : n = r.d.length + 8) (hmid : mid.length = n) (hp : pre.length = ob) (hnc : n ≤ c) (hbig : n < 4611686018427387904)
    (_hvb : ∀ A l C, r.v = .slice A l C → True) (hb : Blk w gb t (pre ++ (mid ++ post)).toArray) :
    Calls Tryz.prog 207 #[.agg #[r.v, .int .u64 (r.off : Int)], .slice (some ⟨gb, ob, none⟩) n c] w fun e w' =>
      e = .returned (.tuple #[]) ∧ Blk w' gb t (pre ++ (Lib.byteCells (rowB ⟨r.d, r.off⟩) ++ post)).toArray ∧ Off [gb] w w' := by
  obtain ⟨A, C, b, o, hrv, hA, hseg⟩ := id hv
  have hX : Blk (w.alloc (.cells #[r.v, .int .u64 (r.off : Int)] 300)) w.heap.size 300 #[r.v, .int .u64 (r.off : Int)] := Blk.new' _ _ _ rfl
  have hlt := hb.lt
  have hne : w.heap.size ≠ gb := by omega
  have hdg1 : DgIn (w.alloc (.cells #[r.v, .int .u64 (r.off : Int)] 300)) r.v r.d := by
    refine ⟨A, C, b, o, hrv, hA, ?_⟩
    by_cases h0 : 0 < r.d.length
    · exact hseg.alloc (hseg.lt h0) _
    · obtain h1 : r.d = [] := List.eq_nil_of_length_eq_zero (by omega)
      rw [h1]; exact Seg.nil
  have hb1 := hb.alloc (.cells #[r.v, .int .u64 (r.off : Int)] 300)
  obtain ⟨m1, m2, hm12, hm1, hm2⟩ : ∃ m1 m2, mid = m1 ++ m2 ∧ m1.length = r.d.length ∧ m2.length = 8 := ⟨mid.take r.d.length, mid.drop r.d.length, (List.take_append_drop _ _).symm, by simp; omega, by simp; omega⟩
  rw [hm12, List.append_assoc m1 m2 post] at hb1
  have HB1 := Lib.hid hb1
  have HDG := Lib.hid hdg1
  have HX := Lib.hid hX
  have HO0 := Lib.hid (Off.alloc (Off.refl [gb] w) (.cells #[r.v, .int .u64 (r.off : Int)] 300))
  have hP64 : Hid (∀ W, Blk W gb t (pre ++ (Lib.byteCells r.d ++ (m2 ++ post))).toArray → Calls Tryz.prog 233 #[.agg #[], .slice (some ⟨gb, ob + r.d.length, none⟩) (n - r.d.length) (c - r.d.length), .int .u64 (r.off : Int)] W fun e w' =>
      e = .returned (.tuple #[]) ∧ Blk w' gb t (pre ++ (Lib.byteCells (rowB ⟨r.d, r.off⟩) ++ post)).toArray ∧ Off [gb] W w') := fun W hW => by
    have := putLE64_blk gb (ob + r.d.length) (n - r.d.length) (c - r.d.length) r.off t (pre ++ Lib.byteCells r.d) m2 post hoff W (by omega) (by simp [hp, Lib.byteCells_length]) hm2 (by rw [List.append_assoc]; exact hW)
    refine this.mono fun e w' ⟨he, hw1, hw2⟩ => ⟨he, ?_, hw2⟩
    rw [rowB, Lib.byteCells_append, List.append_assoc]
    rw [List.append_assoc] at hw1
    exact hw1
  have hln : ((r.d.length : Nat) : Int) ≤ (n : Int) := by omega
  have hl0 : (0 : Int) ≤ ((r.d.length : Nat) : Int) := by omega
  have hck : ¬ c = r.d.length := by omega
  have HN := Lib.hid hn
  rw [hrv]
  rw [hrv] at HX HB1 HDG HO0
  have HRV := Lib.hid hrv
  clear hv hX hdg1 hb1 hb hseg hA hn hrv _hvb
  go_enter Tryz.func207, Tryz.ntmps207
  go_wp2_with fail
  go_region_law (refine step_copyD rfl (.tmp 6) (.tmp 8) 46 46 rfl 5 Tryz.underlying46 Tryz.sizeByte gb ob t pre m1 (m2 ++ post) HB1.out hp r.d hm1 (.slice A r.d.length C) HDG.out n c (by have := HN.out; omega) (by simp [Act.eval]) (by simp [Act.eval]) r.d.length rfl ?_; intro w4 HW4 HO4)
  all_goals
    have hX4 := HO4.out.blk HX.out (by simp; exact hne)
    have hc1 : w4.cell? ⟨w.heap.size, 1, none⟩ = some (.int .u64 (r.off : Int)) := hX4.cell 1
    have hc0 : w4.cell? ⟨w.heap.size, 0, none⟩ = some (.slice A r.d.length C) := hX4.cell 0
    have HC : Hid (∀ W, Drew w4 W → _) := fun W hW => hP64.out W (hW.blk HW4.out)
    have HO5 : Hid (Off [gb] w w4) := HO0.out.next HO4.out ⟨rfl, rfl, rfl, rfl⟩ (fun x hx => Or.inl hx)
    have HX4 := Lib.hid hX4
    clear hX4
    go_wp2_with fail
    go_region_held3 (fun w' => w'.cell? ⟨w.heap.size, 1, none⟩ = some (.int .u64 (r.off : Int)))
      (first | exact hc1 | exact hc5) (first | (go_at_call 233; refine (HC.out _ (by repeat' (first | exact Drew.refl _ | exact Drew.one _ | refine Drew.more ?_ 1))).mono ?_; rintro e w5 ⟨rfl, hB5, hO5⟩; have hc5 : w5.cell? ⟨w.heap.size, 1, none⟩ = some (.int .u64 (r.off : Int)) := (hO5.blk HX4.out (by simp; exact hne)).cell 1; have HB5 := Lib.hid hB5; have HO6 := Lib.hid hO5; clear hB5 hO5))
  all_goals go_wp2_with fail
  all_goals go_end0
  all_goals exact ⟨rfl, HB5.out, HO5.out.next HO6.out ⟨rfl, rfl, rfl, rfl⟩ (fun x hx => Or.inl hx)⟩
end Go.Proofs.YtcgggcjmmphldaaGreatDoor
namespace Go.Proofs.YtcgggcjmmphldaaGreatDoor
open Go.RowKit

/-- Block b is a bytes.Buffer that holds l; all that was in w0 is as it was. -/
structure WrAt (b : Nat) (w0 : World) (l : List UInt8) (w : World) : Prop where
  le : w0.heap.size ≤ b
  buf : Lib.IsBuffer 134 5 b b (Lib.byteCells l) w
  off : Off [] w0 w

theorem WrAt.lt {b : Nat} {w0 w : World} {l : List UInt8} (h : WrAt b w0 l w) : b < w.heap.size := Lib.IsBuffer.lt h.buf
theorem WrAt.old {b : Nat} {w0 w w' : World} {l : List UInt8} (h : WrAt b w0 l w) (k : Below w.heap.size w w') : WrAt b w0 l w' := ⟨h.le, Lib.IsBuffer.old h.buf k, h.off.then (Off.ofBelow (S := []) k) (fun x hx => by simp at hx)⟩
theorem WrAt.drewN {b : Nat} {w0 w : World} {l : List UInt8} (h : WrAt b w0 l w) (n : Nat) : WrAt b w0 l (w.drewN n) := h.old ⟨rfl, rfl, rfl, Nat.le_refl _, fun _ _ => rfl⟩
theorem WrAt.ofDrew {b : Nat} {w0 w w' : World} {l : List UInt8} (h : WrAt b w0 l w) (k : Drew w w') : WrAt b w0 l w' := h.old (k.below _)
theorem kept_of_below {b : Option Nat} {e : TypeId} {w w' : World} (k : Below w.heap.size w w') : Lib.OthersKept e b w w' := fun i o hi _ _ => by
  have hlt : i < w.heap.size := by
    rcases Nat.lt_or_ge i w.heap.size with h | h
    · exact h
    · rw [Array.getElem?_eq_none h] at hi; cases hi
  exact (k.block i hlt).trans hi
/-- A block of another type than bytes, not the buffer, is kept. -/
theorem kept_blk {b g : Nat} {e t : TypeId} {w w' : World} {cs : Array Value} (k : Lib.OthersKept e (some b) w w') (h : Blk w g t cs) (hg : g ≠ b) (ht : t ≠ e) : Blk w' g t cs :=
  k g _ h (fun x => hg (by injection x)) (fun c fz x => ht (by injection x))

theorem run_makeB4 (W : World) : (Instr.makeSlice 46 (.int .i64 4) (.int .i64 4)).run Tryz.prog W = .ok (.slice (some ⟨W.heap.size, 0, none⟩) 4 4) (W.alloc (.cells #[.int .u8 0, .int .u8 0, .int .u8 0, .int .u8 0] 5)) := by
  obtain ⟨ib0, hbi, hbz0, hbz1, hbz2⟩ := info_parts Tryz.infoByte
  exact run_makeBytes Tryz.underlying46 hbi hbz0 hbz1 hbz2 4 (by omega) W
theorem run_makeB8 (W : World) : (Instr.makeSlice 46 (.int .i64 8) (.int .i64 8)).run Tryz.prog W = .ok (.slice (some ⟨W.heap.size, 0, none⟩) 8 8) (W.alloc (.cells #[.int .u8 0, .int .u8 0, .int .u8 0, .int .u8 0, .int .u8 0, .int .u8 0, .int .u8 0, .int .u8 0] 5)) := by
  obtain ⟨ib0, hbi, hbz0, hbz1, hbz2⟩ := info_parts Tryz.infoByte
  exact run_makeBytes Tryz.underlying46 hbi hbz0 hbz1 hbz2 8 (by omega) W
theorem method_bufWrite (a : Addr) (w : World) : (method 472 137 (.pointer (some a)) "Write").run Tryz.prog w = .ok (276, .pointer (some a)) w := by kernel_rfl
theorem nil_bufWrite (a : Addr) (w : World) : (nilAhead 472 137 (.pointer (some a)) "Write").run Tryz.prog w = .ok (some false) w := by kernel_rfl

theorem bufWrite_any {b : Nat} {w0 w : World} {l : List UInt8} (h : WrAt b w0 l w) (g o n c : Nat) (m : List UInt8) (hs : Seg w g o m) (hn : m.length = n) (hg : g ≠ b) (hlim : l.length + n ≤ 140737488355328) :
    Calls Tryz.prog 276 #[.pointer (some ⟨b, 0, none⟩), .slice (some ⟨g, o, none⟩) n c] w fun e w' => e = .returned (.tuple #[.int .i64 n, .nilIface]) ∧ WrAt b w0 (l ++ m) w' ∧ Lib.OthersKept 5 (some b) w w' := by
  refine (Tryz.Buffer_Write_any b b (Lib.byteCells l) (Lib.byteCells m) ⟨g, o, none⟩ n c w h.buf (Nat.le_of_lt h.lt) (fun v hv => Lib.byteCells_one l v hv) (by rw [Lib.byteCells_length, hn]) hg ?_ (fun v hv => Lib.byteCells_one m v hv) (by rw [Lib.byteCells_length]; exact hlim)).mono ?_
  · exact hs.cells
  · rintro e w' ⟨he, hb, hB, hk⟩
    exact ⟨he, ⟨h.le, by rw [Lib.byteCells_append]; exact hb, ⟨hB.os.trans h.off.os, hB.tape.trans h.off.tape, hB.output.trans h.off.output, Nat.le_trans h.off.size hB.size, fun i hi _ => (hB.block i (Nat.lt_of_lt_of_le hi h.le)).trans (h.off.block i hi (by simp))⟩⟩, hk⟩

set_option maxRecDepth 100000 in
set_option maxHeartbeats 1000000 in
theorem zzWrite32_any {b : Nat} {w0 w : World} {l : List UInt8} (h : WrAt b w0 l w) (n : Nat) (hn : n < 4294967296) (hlim : l.length + 4 ≤ 140737488355328) :
    Calls Tryz.prog 194 #[.iface 137 (.pointer (some ⟨b, 0, none⟩)), .int .u32 (n : Int)] w fun e w' => e = .returned .nilIface ∧ WrAt b w0 (l ++ Lib.leBytes 4 n) w' ∧ Lib.OthersKept 5 (some b) w w' := by
  have hblt := h.lt
  have hP : ∀ W, Blk W w.heap.size 5 #[.int .u8 0, .int .u8 0, .int .u8 0, .int .u8 0] → Calls Tryz.prog 208 #[.agg #[], .slice (some ⟨w.heap.size, 0, none⟩) 4 4, .int .u32 (n : Int)] W fun e w' => e = .returned (.tuple #[]) ∧ Blk w' w.heap.size 5 (Lib.byteCells (Lib.leBytes 4 n)).toArray ∧ Off [w.heap.size] W w' := fun W hW =>
    (putLE32_blk w.heap.size 0 4 4 n 5 [] [.int .u8 0, .int .u8 0, .int .u8 0, .int .u8 0] [] hn W (by omega) rfl rfl hW).mono fun e w' ⟨h1, h2, h3⟩ => ⟨h1, by simpa using h2, h3⟩
  have hW : ∀ W, WrAt b w0 l W → Blk W w.heap.size 5 (Lib.byteCells (Lib.leBytes 4 n)).toArray → Calls Tryz.prog 276 #[.pointer (some ⟨b, 0, none⟩), .slice (some ⟨w.heap.size, 0, none⟩) 4 4] W fun e w' => e = .returned (.tuple #[.int .i64 4, .nilIface]) ∧ WrAt b w0 (l ++ Lib.leBytes 4 n) w' ∧ Lib.OthersKept 5 (some b) W w' := fun W h1 h2 =>
    bufWrite_any h1 w.heap.size 0 4 4 (Lib.leBytes 4 n) h2.seg' (by rw [Lib.leBytes_length]) (by omega) hlim
  have HP := Lib.hid hP
  have HW := Lib.hid hW
  have HH := Lib.hid h
  have hm := method_bufWrite
  clear hP hW h
  have hmk : ∀ W : World, (Instr.makeSlice 46 (.int .i64 4) (.int .i64 4)).run Tryz.prog W = .ok (.slice (some ⟨W.heap.size, 0, none⟩) 4 4) (W.alloc (.cells #[.int .u8 0, .int .u8 0, .int .u8 0, .int .u8 0] 5)) := run_makeB4
  go_enter Tryz.func194, Tryz.ntmps194
  go_wp2_with (first
    | (go_at_call 208; refine (HP.out _ (Blk.new' _ _ _ rfl)).mono ?_; rintro e w1 ⟨rfl, hB1, hO1⟩)
    | (go_at_call 276; refine (HW.out _ (HH.out.old (((Off.alloc (Off.refl [w.heap.size] w) _).then hO1 (fun x hx => Or.inl hx)).below (fun x hx => by simp at hx; omega))) hB1).mono ?_; rintro e w2 ⟨rfl, hR2, hK2⟩))
  go_ret
  exact ⟨rfl, hR2, (kept_of_below (((Off.alloc (Off.refl [w.heap.size] w) _).then hO1 (fun x hx => Or.inl hx)).below (fun x hx => by simp at hx; omega))).trans hK2⟩

set_option maxRecDepth 100000 in
set_option maxHeartbeats 1000000 in
theorem zzWrite64_any {b : Nat} {w0 w : World} {l : List UInt8} (h : WrAt b w0 l w) (n : Nat) (hn : n < 18446744073709551616) (hlim : l.length + 8 ≤ 140737488355328) :
    Calls Tryz.prog 209 #[.iface 137 (.pointer (some ⟨b, 0, none⟩)), .int .u64 (n : Int)] w fun e w' => e = .returned .nilIface ∧ WrAt b w0 (l ++ Lib.leBytes 8 n) w' ∧ Lib.OthersKept 5 (some b) w w' := by
  have hblt := h.lt
  have hP : ∀ W, Blk W w.heap.size 5 #[.int .u8 0, .int .u8 0, .int .u8 0, .int .u8 0, .int .u8 0, .int .u8 0, .int .u8 0, .int .u8 0] → Calls Tryz.prog 233 #[.agg #[], .slice (some ⟨w.heap.size, 0, none⟩) 8 8, .int .u64 (n : Int)] W fun e w' => e = .returned (.tuple #[]) ∧ Blk w' w.heap.size 5 (Lib.byteCells (Lib.leBytes 8 n)).toArray ∧ Off [w.heap.size] W w' := fun W hW =>
    (putLE64_blk w.heap.size 0 8 8 n 5 [] [.int .u8 0, .int .u8 0, .int .u8 0, .int .u8 0, .int .u8 0, .int .u8 0, .int .u8 0, .int .u8 0] [] hn W (by omega) rfl rfl hW).mono fun e w' ⟨h1, h2, h3⟩ => ⟨h1, by simpa using h2, h3⟩
  have hW : ∀ W, WrAt b w0 l W → Blk W w.heap.size 5 (Lib.byteCells (Lib.leBytes 8 n)).toArray → Calls Tryz.prog 276 #[.pointer (some ⟨b, 0, none⟩), .slice (some ⟨w.heap.size, 0, none⟩) 8 8] W fun e w' => e = .returned (.tuple #[.int .i64 8, .nilIface]) ∧ WrAt b w0 (l ++ Lib.leBytes 8 n) w' ∧ Lib.OthersKept 5 (some b) W w' := fun W h1 h2 =>
    bufWrite_any h1 w.heap.size 0 8 8 (Lib.leBytes 8 n) h2.seg' (by rw [Lib.leBytes_length]) (by omega) hlim
  have HP := Lib.hid hP
  have HW := Lib.hid hW
  have HH := Lib.hid h
  have hm := method_bufWrite
  clear hP hW h
  have hmk : ∀ W : World, (Instr.makeSlice 46 (.int .i64 8) (.int .i64 8)).run Tryz.prog W = .ok (.slice (some ⟨W.heap.size, 0, none⟩) 8 8) (W.alloc (.cells #[.int .u8 0, .int .u8 0, .int .u8 0, .int .u8 0, .int .u8 0, .int .u8 0, .int .u8 0, .int .u8 0] 5)) := run_makeB8
  go_enter Tryz.func209, Tryz.ntmps209
  go_wp2_with (first
    | (go_at_call 233; refine (HP.out _ (Blk.new' _ _ _ rfl)).mono ?_; rintro e w1 ⟨rfl, hB1, hO1⟩)
    | (go_at_call 276; refine (HW.out _ (HH.out.old (((Off.alloc (Off.refl [w.heap.size] w) _).then hO1 (fun x hx => Or.inl hx)).below (fun x hx => by simp at hx; omega))) hB1).mono ?_; rintro e w2 ⟨rfl, hR2, hK2⟩))
  go_ret
  exact ⟨rfl, hR2, (kept_of_below (((Off.alloc (Off.refl [w.heap.size] w) _).then hO1 (fun x hx => Or.inl hx)).below (fun x hx => by simp at hx; omega))).trans hK2⟩
end Go.Proofs.YtcgggcjmmphldaaGreatDoor
namespace Go.Proofs.YtcgggcjmmphldaaGreatDoor
open Go.RowKit

theorem WrAt.keep {b g : Nat} {w0 w w' : World} {l : List UInt8} {t : TypeId} {cs : Array Value} (_h : WrAt b w0 l w) (k : Lib.OthersKept 5 (some b) w w') (hb : Blk w g t cs) (hg : g ≠ b) (ht : t ≠ 5) : Blk w' g t cs := kept_blk k hb hg ht

set_option maxRecDepth 100000 in
set_option maxHeartbeats 2000000 in
theorem swMarshal_any {b : Nat} {w0 w : World} {l : List UInt8} (h : WrAt b w0 l w) (q W8 k m C : Nat) (R : List UInt8) (hq : Blk w q 293 #[.int .u32 (W8 : Int), .int .u64 (k : Int), .slice (some ⟨C, 0, none⟩) m m]) (hqb : q ≠ b)
    (hm : R.length = m) (hs : Seg w0 C 0 R) (hC : C < w0.heap.size) (hW8 : W8 < 4294967296) (hlim : l.length + (12 + m) ≤ 140737488355328) :
    Calls Tryz.prog 234 #[.pointer (some ⟨q, 0, none⟩), .iface 137 (.pointer (some ⟨b, 0, none⟩))] w fun e w' =>
      e = .returned (.tuple #[.int .u64 ((12 + m : Nat) : Int), .nilIface]) ∧ WrAt b w0 (l ++ (Lib.leBytes 4 W8 ++ (Lib.leBytes 8 m ++ R))) w' ∧ Lib.OthersKept 5 (some b) w w' := by
  have hCb : C ≠ b := by have := h.le; omega
  have c0 : w.cell? ⟨q, 0, none⟩ = some (.int .u32 (W8 : Int)) := hq.cell 0
  have H1 := Lib.hid (zzWrite32_any h W8 hW8 (by omega))
  have H2 : Hid (∀ W, WrAt b w0 (l ++ Lib.leBytes 4 W8) W → _) := Lib.hid fun W hW => zzWrite64_any hW m (by omega) (by rw [List.length_append, Lib.leBytes_length]; omega)
  have H3 : Hid (∀ W, WrAt b w0 (l ++ Lib.leBytes 4 W8 ++ Lib.leBytes 8 m) W → _) := Lib.hid fun W hW => bufWrite_any hW C 0 m m R (hs.off hW.off (by simp)) hm hCb (by rw [List.length_append, List.length_append, Lib.leBytes_length, Lib.leBytes_length]; omega)
  have HQ := Lib.hid hq
  have hm1 := method_bufWrite
  have hm2 := nil_bufWrite
  have hw1 : IntKind.u64.wrap (m : Int) = (m : Int) := by rw [IntKind.wrap_u64]; omega
  have hw2 : IntKind.u64.wrap (12 + (m : Int)) = 12 + (m : Int) := by rw [IntKind.wrap_u64]; omega
  have e12 : ((12 + m : Nat) : Int) = 12 + (m : Int) := by omega
  have HM := Lib.hid hm
  rw [e12]
  clear hq h hs hm e12 hlim
  go_enter Tryz.func234, Tryz.ntmps234
  go_wp2_with (go_at_call 194; refine H1.out.mono ?_; rintro e w1 ⟨rfl, hR1, hK1⟩; have hq1 := kept_blk hK1 HQ.out hqb (by decide); have c2 : w1.cell? ⟨q, 2, none⟩ = some (.slice (some ⟨C, 0, none⟩) m m) := hq1.cell 2; have HQ1 := Lib.hid hq1; have HK1 := Lib.hid hK1; clear hq1 hK1 H1 c0)
  go_wp2_with (go_at_call 209; refine (H2.out _ hR1).mono ?_; rintro e w2 ⟨rfl, hR2, hK2⟩; have hq2 := kept_blk hK2 HQ1.out hqb (by decide); have c22 : w2.cell? ⟨q, 2, none⟩ = some (.slice (some ⟨C, 0, none⟩) m m) := hq2.cell 2; have HQ2 := Lib.hid hq2; have HK2 := Lib.hid hK2; have HR2 := Lib.hid hR2; clear hq2 hK2 H2 c2 hR1 hR2)
  go_wp2_with fail
  go_region_held3 (fun w' => w'.cell? ⟨q, 2, none⟩ = some (.slice (some ⟨C, 0, none⟩) m m)) (first | exact c22 | exact c33) (first | (go_at_call 276; refine (H3.out _ (HR2.out.ofDrew (by repeat' (first | exact Drew.refl _ | exact Drew.one _ | refine Drew.more ?_ 1)))).mono ?_; rintro e w3 ⟨rfl, hR3, hK3⟩; have c33 : w3.cell? ⟨q, 2, none⟩ = some (.slice (some ⟨C, 0, none⟩) m m) := (kept_blk hK3 (HQ2.out.drewN 0) hqb (by decide)).cell 2; have HR3 := Lib.hid hR3; have HK3 := Lib.hid hK3; clear hR3 hK3))
  all_goals go_wp2_with fail
  all_goals go_ret2
  all_goals exact ⟨rfl, by have := HR3.out; rwa [List.append_assoc, List.append_assoc] at this, HK1.out.trans (HK2.out.trans HK3.out)⟩
end Go.Proofs.YtcgggcjmmphldaaGreatDoor
