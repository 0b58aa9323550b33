/- Rows of bytes: zero bytes, a row that is made, a row's cells. -/
import Derived.Test.YtioabgenlaikaaaGreatDoorProg
import Derived.Test.YtioabgenlaikaaaGreatDoorSeg
import Derived.WalkSpells
import Derived.WalkLawsBesides
import Derived.Deep.RegionWith
namespace Go.Proofs.YtioabgenlaikaaaGreatDoor
open Go.RowKit

theorem Tryz.infoByte : (Tryz.prog.info? 5).map (fun i => (i.zero, i.size, i.bytes)) = some (some (.int .u8 0), 1, 1) := by kernel_rfl

theorem Tryz.sizeByte : (Tryz.prog.info? 5).map (·.size) = some 1 := by kernel_rfl
theorem byteCells_one (l : List UInt8) : ∀ v ∈ Lib.byteCells l, v.oneCell' = true := by
  intro v hv
  simp only [Lib.byteCells, List.mem_map] at hv
  obtain ⟨x, _, rfl⟩ := hv
  rfl
theorem byteCells_get (l : List UInt8) (j : Nat) (v : Value) (h : (Lib.byteCells l)[j]? = some v) : ∃ h : j < l.length, v = .int .u8 (l[j].toNat : Int) := by
  simp only [Lib.byteCells, List.getElem?_map, Option.map_eq_some_iff] at h
  obtain ⟨x, hx, rfl⟩ := h
  obtain ⟨hj, rfl⟩ := List.getElem?_eq_some_iff.1 hx
  exact ⟨hj, rfl⟩
theorem add_plain (b o j : Nat) : (⟨b, o, none⟩ : Addr).add j = ⟨b, o + j, none⟩ := by unfold Addr.add; split <;> simp_all
theorem Seg.cells {w : World} {b o : Nat} {l : List UInt8} (h : Seg w b o l) : ∀ j v, (Lib.byteCells l)[j]? = some v → w.cell? ((⟨b, o, none⟩ : Addr).add j) = some v := by
  intro j v hv
  obtain ⟨hj, rfl⟩ := byteCells_get l j v hv
  rw [add_plain]; exact h j hj

/-- So many zero bytes. -/
def zeroBytes (n : Nat) : List Value := Lib.byteCells (List.replicate n 0)
theorem zeroBytes_length (n : Nat) : (zeroBytes n).length = n := by simp [zeroBytes, Lib.byteCells_length]
theorem zeroBytes_append (m n : Nat) : zeroBytes (m + n) = zeroBytes m ++ zeroBytes n := by simp [zeroBytes, Lib.byteCells, List.replicate_append_replicate]
theorem madeCells_bytes (n : Nat) : madeCells (Value.int .u8 0).cells n = (zeroBytes n).toArray := by
  apply Array.ext
  · simp [size_madeCells, zeroBytes, Lib.byteCells]
  · intro i h1 h2
    simp [madeCells, zeroBytes, Lib.byteCells, Value.cells, Nat.mod_one]
theorem run_makeBytes {P : Program} {t e : TypeId} {i : TypeInfo} (ht : P.underlying t = some (.slice e)) (hi : P.info? e = some i) (hz : i.zero = some (.int .u8 0)) (hs : i.size = 1) (hb : i.bytes = 1)
    (n : Nat) (hn : n ≤ 281474976710656) (w : World) (k : IntKind := .i64) :
    (Instr.makeSlice t (.int k (n : Int)) (.int k (n : Int))).run P w = .ok (.slice (some ⟨w.heap.size, 0, none⟩) n n) (w.alloc (.cells (zeroBytes n).toArray e)) := by
  have hr := run_make (P := P) w t e i (.int .u8 0) ht hi hz k k (n : Int) (n : Int) (by omega) (by omega) (by rw [hb]; omega) (by omega)
  simp only [Int.toNat_natCast, hs, Nat.mul_one, madeCells_bytes] at hr
  exact hr

theorem run_sliceAt_arr {P : Program} {t e n : Nat} {i : TypeInfo} (ht : P.underlying t = some (.array n e)) (hi : P.info? e = some i) (g o h : Nat) (hh : h ≤ n) (W : World) :
    (Instr.sliceAt t (.pointer (some ⟨g, o, none⟩)) none (some (.int .i64 (h : Int))) none).run P W = .ok (.slice (some ⟨g, o, none⟩) h n) W := by
  have hz : (⟨g, o, none⟩ : Addr).add 0 = ⟨g, o, none⟩ := by rw [add_plain]; rfl
  simp [Instr.sliceAt, Instr.sureAddr, run_underlying ht, Instr.sliceBounds, run_sliceBound, sizeOf, typeInfo, hi, hh, hz]
/-- The string of some bytes. -/
abbrev str (l : List UInt8) : ByteArray := ⟨l.toArray⟩

theorem run_convert_seg {P : Program} {W : World} {b o : Nat} {l : List UInt8} {src e dst : TypeId} (hs : P.underlying src = some (.slice e)) (he : P.underlying e = some (.int .u8)) (hd : P.underlying dst = some .string) (cap : Nat) (h : Seg W b o l) :
    (convert src dst (.slice (some ⟨b, o, none⟩) l.length cap)).run P W = .ok (.string (str l)) W := by
  have hr := run_convert_bytes_arg W src e hs he b o l.length cap (l.map fun x => (x.toNat : Int)) (by simp) (fun i hi => by
    rw [h i hi]; simp [List.getD, List.getElem?_eq_getElem hi]) dst hd
  rw [hr]
  have : strOfNums (l.map fun x => (x.toNat : Int)) = str l := by
    apply ByteArray.ext
    apply Array.ext'
    rw [strOfNums_data]
    simp [str, Function.comp_def]
  rw [this]

theorem bytesRow_list (s : ByteArray) (c : Nat) : (Lib.byteCells s.data.toList ++ List.replicate (c - s.size) (Value.int .u8 0)).toArray = bytesRow s c := by
  apply Array.ext'
  simp [bytesRow, Lib.byteCells]

end Go.Proofs.YtioabgenlaikaaaGreatDoor
