/-
  Rows of bytes: zero bytes, a row that is made, a row's cells.
  What a call leaves as it was: all old blocks but a few named ones. No program is named here.
  A row of bytes that a conversion of a string made (the run-time's mark stands behind its last cell): append and copy.
  A row of bytes behind which a mark may stand: append of a string.
  (No condition beyond those that each theorem states.)
-/
import Derived.Test.YthmhnknkidkdlaaGreatDoorProg
import Derived.Test.YthmhnknkidkdlaaGreatDoorB00
import Derived.WalkSpells
import Derived.WalkLawsBesides
import Derived.Deep.RegionWith
import Derived.Deep.RegionLaw
import Derived.Lib.FrozenHead
import Derived.Laws.IdiomStrings
import Derived.Lib.AppendStr
namespace Go.Proofs.YthmhnknkidkdlaaGreatDoor
open Go.RowKit

theorem Tryz.infoByte : (Tryz.prog.info? 5).map (fun i => (i.zero, i.size, i.bytes)) = some (some (.int .u8 0), 1, 1) := by kernel_rfl

theorem Tryz.sizeByte : (Tryz.prog.info? 5).map (·.size) = some 1 := by kernel_rfl
theorem byteCells_one (l : List UInt8) : ∀ v ∈ Lib.byteCells l, v.oneCell' = true := by
  intro v hv
  simp only [Lib.byteCells, List.mem_map] at hv
  obtain ⟨x, _, rfl⟩ := hv
  rfl
theorem byteCells_get (l : List UInt8) (j : Nat) (v : Value) (h : (Lib.byteCells l)[j]? = some v) : ∃ h : j < l.length, v = .int .u8 (l[j].toNat : Int) := by
  simp only [Lib.byteCells, List.getElem?_map, Option.map_eq_some_iff] at h
  obtain ⟨x, hx, rfl⟩ := h
  obtain ⟨hj, rfl⟩ := List.getElem?_eq_some_iff.1 hx
  exact ⟨hj, rfl⟩
theorem add_plain (b o j : Nat) : (⟨b, o, none⟩ : Addr).add j = ⟨b, o + j, none⟩ := by unfold Addr.add; split <;> simp_all
theorem Seg.cells {w : World} {b o : Nat} {l : List UInt8} (h : Seg w b o l) : ∀ j v, (Lib.byteCells l)[j]? = some v → w.cell? ((⟨b, o, none⟩ : Addr).add j) = some v := by
  intro j v hv
  obtain ⟨hj, rfl⟩ := byteCells_get l j v hv
  rw [add_plain]; exact h j hj

/-- So many zero bytes. -/
def zeroBytes (n : Nat) : List Value := Lib.byteCells (List.replicate n 0)
theorem zeroBytes_length (n : Nat) : (zeroBytes n).length = n := by simp [zeroBytes, Lib.byteCells_length]
theorem zeroBytes_append (m n : Nat) : zeroBytes (m + n) = zeroBytes m ++ zeroBytes n := by simp [zeroBytes, Lib.byteCells, List.replicate_append_replicate]
theorem madeCells_bytes (n : Nat) : madeCells (Value.int .u8 0).cells n = (zeroBytes n).toArray := by
  apply Array.ext
  · simp [size_madeCells, zeroBytes, Lib.byteCells]
  · intro i h1 h2
    simp [madeCells, zeroBytes, Lib.byteCells, Value.cells, Nat.mod_one]
theorem run_makeBytes {P : Program} {t e : TypeId} {i : TypeInfo} (ht : P.underlying t = some (.slice e)) (hi : P.info? e = some i) (hz : i.zero = some (.int .u8 0)) (hs : i.size = 1) (hb : i.bytes = 1)
    (n : Nat) (hn : n ≤ 281474976710656) (w : World) (k : IntKind := .i64) :
    (Instr.makeSlice t (.int k (n : Int)) (.int k (n : Int))).run P w = .ok (.slice (some ⟨w.heap.size, 0, none⟩) n n) (w.alloc (.cells (zeroBytes n).toArray e)) := by
  have hr := run_make (P := P) w t e i (.int .u8 0) ht hi hz k k (n : Int) (n : Int) (by omega) (by omega) (by rw [hb]; omega) (by omega)
  simp only [Int.toNat_natCast, hs, Nat.mul_one, madeCells_bytes] at hr
  exact hr

theorem run_sliceAt_arr {P : Program} {t e n : Nat} {i : TypeInfo} (ht : P.underlying t = some (.array n e)) (hi : P.info? e = some i) (g o h : Nat) (hh : h ≤ n) (W : World) :
    (Instr.sliceAt t (.pointer (some ⟨g, o, none⟩)) none (some (.int .i64 (h : Int))) none).run P W = .ok (.slice (some ⟨g, o, none⟩) h n) W := by
  have hz : (⟨g, o, none⟩ : Addr).add 0 = ⟨g, o, none⟩ := by rw [add_plain]; rfl
  simp [Instr.sliceAt, Instr.sureAddr, run_underlying ht, Instr.sliceBounds, run_sliceBound, sizeOf, typeInfo, hi, hh, hz]
/-- The string of some bytes. -/
abbrev str (l : List UInt8) : ByteArray := ⟨l.toArray⟩

theorem run_convert_seg {P : Program} {W : World} {b o : Nat} {l : List UInt8} {src e dst : TypeId} (hs : P.underlying src = some (.slice e)) (he : P.underlying e = some (.int .u8)) (hd : P.underlying dst = some .string) (cap : Nat) (h : Seg W b o l) :
    (convert src dst (.slice (some ⟨b, o, none⟩) l.length cap)).run P W = .ok (.string (str l)) W := by
  have hr := run_convert_bytes_arg W src e hs he b o l.length cap (l.map fun x => (x.toNat : Int)) (by simp) (fun i hi => by
    rw [h i hi]; simp [List.getD, List.getElem?_eq_getElem hi]) dst hd
  rw [hr]
  have : strOfNums (l.map fun x => (x.toNat : Int)) = str l := by
    apply ByteArray.ext
    apply Array.ext'
    rw [strOfNums_data]
    simp [Function.comp_def]
  rw [this]

theorem bytesRow_list (s : ByteArray) (c : Nat) : (Lib.byteCells s.data.toList ++ List.replicate (c - s.size) (Value.int .u8 0)).toArray = bytesRow s c := by
  apply Array.ext'
  simp [bytesRow, Lib.byteCells]

end Go.Proofs.YthmhnknkidkdlaaGreatDoor
namespace Go.Proofs.YthmhnknkidkdlaaGreatDoor
open Go.RowKit

/-- All blocks of w but those in S are in w' as they were. -/
structure Off (S : List Nat) (w w' : World) : Prop where
  os : w'.os = w.os
  tape : w'.tape = w.tape
  output : w'.output = w.output
  size : w.heap.size ≤ w'.heap.size
  block : ∀ k, k < w.heap.size → k ∉ S → w'.heap[k]? = w.heap[k]?

section
variable {w w' a b c : World} {S S' : List Nat} {g : Nat} {t : TypeId} {cs : Array Value} {l : List UInt8} {o : Nat}

theorem Off.refl (S : List Nat) (w : World) : Off S w w := ⟨rfl, rfl, rfl, Nat.le_refl _, fun _ _ _ => rfl⟩
theorem Off.trans (h : Off S a b) (k : Off S' b c) : Off (S ++ S') a c :=
  ⟨k.os.trans h.os, k.tape.trans h.tape, k.output.trans h.output, Nat.le_trans h.size k.size, fun i hi hn => by
    simp at hn
    exact (k.block i (Nat.lt_of_lt_of_le hi h.size) hn.2).trans (h.block i hi hn.1)⟩
/-- New blocks of the middle world need no name. -/
theorem Off.then (h : Off S a b) (k : Off S' b c) (hs : ∀ x, x ∈ S' → x ∈ S ∨ a.heap.size ≤ x) : Off S a c :=
  ⟨k.os.trans h.os, k.tape.trans h.tape, k.output.trans h.output, Nat.le_trans h.size k.size, fun i hi hn => by
    have hn' : i ∉ S' := fun hx => by
      rcases hs i hx with h1 | h1
      · exact hn h1
      · omega
    exact (k.block i (Nat.lt_of_lt_of_le hi h.size) hn').trans (h.block i hi hn)⟩
theorem Off.mono (h : Off S a b) (hs : ∀ x, x ∈ S → x ∈ S' ∨ a.heap.size ≤ x) : Off S' a b :=
  ⟨h.os, h.tape, h.output, h.size, fun i hi hn => h.block i hi (fun hx => by
    rcases hs i hx with h1 | h1
    · exact hn h1
    · omega)⟩
theorem Off.drew (h : Off S a b) : Off S a b.drew := ⟨h.os, h.tape, h.output, h.size, h.block⟩
theorem Off.drewN (h : Off S a b) (n : Nat) : Off S a (b.drewN n) := ⟨h.os, h.tape, h.output, h.size, h.block⟩
theorem Off.ofDrew (h : Drew a b) : Off S a b := by
  obtain ⟨n, rfl⟩ := h
  exact (Off.refl S a).drewN n
theorem Off.alloc (h : Off S a b) (ob : Obj) : Off S a (b.alloc ob) :=
  ⟨h.os, h.tape, h.output, by have := h.size; simp; omega, fun i hi hn => by
    have hlt : i < b.heap.size := Nat.lt_of_lt_of_le hi h.size
    rw [← h.block i hi hn]
    exact Below.heap_alloc b ob i hlt⟩
theorem Off.setCell (h : Off S a b) {p : Addr} (hp : p.block ∈ S ∨ a.heap.size ≤ p.block) (u : Value) : Off S a (b.setCell p u) :=
  ⟨h.os, h.tape, h.output, by have := h.size; simp [World.setCell]; omega, fun i hi hn => by
    rw [← h.block i hi hn]
    exact Below.heap_setCell b p u i (fun e => by
      rcases hp with h1 | h1
      · exact hn (e ▸ h1)
      · omega)⟩
theorem Off.below (h : Off S a b) (hS : ∀ x, x ∈ S → a.heap.size ≤ x) : Below a.heap.size a b :=
  ⟨h.os, h.tape, h.output, h.size, fun i hi => h.block i hi (fun hx => by have := hS i hx; omega)⟩
theorem Off.below' {B : Nat} (h : Off S a b) (hB : B ≤ a.heap.size) (hS : ∀ x, x ∈ S → B ≤ x) : Below B a b :=
  ⟨h.os, h.tape, h.output, h.size, fun i hi => h.block i (by omega) (fun hx => by have := hS i hx; omega)⟩
theorem Off.ofBelow (h : Below a.heap.size a b) : Off S a b := ⟨h.os, h.tape, h.output, h.size, fun i hi _ => h.block i hi⟩
theorem Off.ofGrown (h : a.grownBy b (some g)) : Off [g] a b := ⟨h.os, h.tape, h.output, h.size, fun i hi hn => h.block i hi (fun e => hn (by injection e with e; simp [e]))⟩
theorem Off.blk (k : Off S a b) (h : Blk a g t cs) (hg : g ∉ S) : Blk b g t cs := (k.block g h.lt hg).trans h
theorem Off.seg (k : Off S a b) (h : Seg a g o l) (hg : g ∉ S) : Seg b g o l := by
  by_cases hl : 0 < l.length
  · exact h.keep fun p hp => World.cell?_of_block (k.block p.block (by rw [hp]; exact h.lt hl) (by rw [hp]; exact hg))
  · obtain rfl : l = [] := List.eq_nil_of_length_eq_zero (by omega)
    exact Seg.nil
/-- .. over a world that is the middle one but for draws. -/
theorem Off.next {b' : World} (h : Off S a b) (k : Off S' b' c) (e : b'.heap = b.heap ∧ b'.os = b.os ∧ b'.tape = b.tape ∧ b'.output = b.output) (hs : ∀ x, x ∈ S' → x ∈ S ∨ a.heap.size ≤ x) : Off S a c :=
  h.then ⟨k.os.trans e.2.1, k.tape.trans e.2.2.1, k.output.trans e.2.2.2, by rw [← e.1]; exact k.size, fun i hi hn => by rw [← e.1] at hi ⊢; exact k.block i hi hn⟩ hs
theorem Blk.off (h : Blk a g t cs) (k : Off S a b) (hg : g ∉ S) : Blk b g t cs := (k.block g h.lt hg).trans h
theorem Seg.off (h : Seg a g o l) (k : Off S a b) (hg : g ∉ S) : Seg b g o l := by
  by_cases hl : 0 < l.length
  · exact h.keep fun p hp => World.cell?_of_block (k.block p.block (by rw [hp]; exact h.lt hl) (by rw [hp]; exact hg))
  · obtain rfl : l = [] := List.eq_nil_of_length_eq_zero (by omega)
    exact Seg.nil
theorem off_setRow {fr : Nat × Nat} {cur : Array Value} (_h : a.heap[g]? = some (.cells cur t fr)) (u : Array Value) : Off [g] a (a.setRow g u) :=
  Off.ofGrown (by
    exact ⟨rfl, rfl, rfl, by simp [World.setRow], fun k _ hne => by
      simp [World.setRow, Array.getElem?_modify]
      intro e
      exact absurd (by rw [e]) hne⟩)

theorem Blk.at {g' : Nat} (h : Blk a g t cs) (e : g = g') : Blk a g' t cs := e ▸ h
theorem Blk.eq {cs' : Array Value} (h : Blk a g t cs) (e : cs = cs') : Blk a g t cs' := e ▸ h
theorem ni1 {x a : Nat} (h : x ≠ a) : x ∉ [a] := by simp; exact h
theorem ni2 {x a b : Nat} (h : x ≠ a) (k : x ≠ b) : x ∉ [a, b] := by simp; exact ⟨h, k⟩
theorem ni3 {x a b c : Nat} (h : x ≠ a) (k : x ≠ b) (l : x ≠ c) : x ∉ [a, b, c] := by simp; exact ⟨h, k, l⟩
theorem ni4 {x a b c d : Nat} (h : x ≠ a) (k : x ≠ b) (l : x ≠ c) (m : x ≠ d) : x ∉ [a, b, c, d] := by simp; exact ⟨h, k, l, m⟩

/-- 'copy' into a row, as one step of a region that draws. -/
theorem step_copyO {P : Program} {ops : Array Oper} {o : Oper} {A : Act} {w : World} {K : Act → World → Prop} {Q : Exit → Act → World → Prop} {E : Prop} (hgd : o.guard = none) (d s : Operand) (dT sT : TypeId)
    (ho : o.op = .call { callee := .builtin .copy, args := #[d, s], argTypes := #[dT, sT] }) (elem : TypeId) (hu : P.underlying dT = some (.slice elem)) (hsz : (P.info? elem).map (·.size) = some 1)
    (g off : Nat) (cur : List Value) (t : TypeId) (hg : Blk w g t cur.toArray) (cs : List Value)
    (hfit : off + cs.length ≤ cur.length) (h1 : ∀ v ∈ cs, v.oneCell' = true) (dLen dCap sLen sCap : Nat) (ad : Addr)
    (hd : A.eval d = .slice (some ⟨g, off, none⟩) dLen dCap) (hs : A.eval s = .slice (some ad) sLen sCap) (hn : cs.length = Nat.min sLen dLen)
    (hpos : ∀ j v, cs[j]? = some v → w.cell? (ad.add j) = some v) (N : Nat) (hN : cs.length = N)
    (h : ∀ w', Hid (Blk w' g t (splice cur off cs).toArray) → Hid (Off [g] w w') → K (A.put o.dst (.int .i64 (N : Int))) w') :
    if Region.wanted o (yielded ops A.tmps) = true then Oper.wp P o A w K Q else E := by
  have hw : Region.wanted o (yielded ops A.tmps) = true := by simp [Region.wanted, hgd]
  rw [if_pos hw]
  have hrun := run_copy_row (P := P) w dT sT o.type elem g off dLen dCap ad sLen sCap cur.toArray t cs hu hsz hg hn hpos (by simpa using hfit) h1
  unfold Oper.wp
  simp [execOp, ho, resolve, invoke, builtin, hd, hs, hrun, Result.andThen]
  subst hN
  exact h _ (Lib.hid (show _ = _ by simpa [splice] using setRow_heap w g _ _ t _ hg)) (Lib.hid (off_setRow hg _))
end
end Go.Proofs.YthmhnknkidkdlaaGreatDoor
namespace Go.Proofs.YthmhnknkidkdlaaGreatDoor
open Go.RowKit

/-- A row of bytes whose own cells may be written; behind them a mark may stand. -/
def MRow (w : World) (v : Value) (l : List UInt8) : Prop := ∃ g cap cur fz, v = .slice (some ⟨g, 0, none⟩) l.length cap ∧ w.heap[g]? = some (.cells cur 5 fz) ∧ (fz = (0, 0) ∨ cur.size ≤ fz.1) ∧ l.length ≤ cap ∧ cap ≤ maxLen ∧ cur.size = cap ∧ cur.toList.take l.length = Lib.byteCells l

theorem MRow.lt {w : World} {v : Value} {l : List UInt8} (h : MRow w v l) : ∀ x, v.ownBlock = some x → x < w.heap.size := by
  obtain ⟨g, cap, cur, fz, rfl, hg, _⟩ := h
  intro x hx
  simp [Value.ownBlock] at hx
  subst hx
  exact (Array.getElem?_eq_some_iff.1 hg).1
theorem MRow.off {w w' : World} {v : Value} {l : List UInt8} {S : List Nat} (h : MRow w v l) (k : Off S w w') (hS : ∀ x, v.ownBlock = some x → x ∉ S) : MRow w' v l := by
  obtain ⟨g, cap, cur, fz, rfl, hg, rest⟩ := h
  exact ⟨g, cap, cur, fz, rfl, (k.block g (Array.getElem?_eq_some_iff.1 hg).1 (hS g rfl)).trans hg, rest⟩
theorem MRow.seg {w : World} {v : Value} {l : List UInt8} (h : MRow w v l) : ∃ g cap, v = .slice (some ⟨g, 0, none⟩) l.length cap ∧ Seg w g 0 l := by
  obtain ⟨g, cap, cur, fz, rfl, hg, _, _, _, _, htk⟩ := h
  refine ⟨g, cap, rfl, Seg.of_bytes (t := 5) (fr := fz) (post := cur.toList.drop l.length) ?_⟩
  rw [← htk, List.take_append_drop, Array.toArray_toList]
  exact hg
theorem MRow.type {w : World} {v : Value} {l : List UInt8} (h : MRow w v l) {x : Nat} {t : TypeId} {cs : Array Value} (hb : Blk w x t cs) (ht : t ≠ 5) : v.ownBlock ≠ some x := by
  obtain ⟨g, cap, cur, fz, rfl, hg, _⟩ := h
  intro hx
  simp [Value.ownBlock] at hx
  subst hx
  unfold Blk at hb
  rw [hg] at hb
  injection hb with hb
  injection hb with _ hb _
  exact ht hb.symm

theorem run_storeCells_atM (P : Program) (g o : Nat) (t : TypeId) (fz : Nat × Nat) : ∀ (vs : List Value) (i : Nat) (cur : Array Value) (w : World), w.heap[g]? = some (.cells cur t fz) → (fz = (0, 0) ∨ cur.size ≤ fz.1) → o + i + vs.length ≤ cur.size → (∀ v ∈ vs, v.oneCell' = true) →
    (storeCells ⟨g, o, none⟩ vs i).run P w = .ok () (w.setRow g (cur.toList.take (o + i) ++ vs ++ cur.toList.drop (o + i + vs.length)).toArray)
  | [], i, cur, w, hg, _, _, _ => by
    simp only [storeCells, List.append_nil, List.length_nil, Nat.add_zero, List.take_append_drop, Array.toArray_toList]
    rw [setRow_self w g cur t fz hg]
    rfl
  | v :: rest, i, cur, w, hg, hfz, hl, h1 => by
    have hi : o + i < cur.size := by simp at hl; omega
    have hcell : w.cell? ⟨g, o + i, none⟩ = some cur[o + i] := by simp [World.cell?, hg, hi]
    have hfro : w.frozen? ⟨g, o + i, none⟩ = false := by
      obtain ⟨lo, hi'⟩ := fz
      simp only [World.frozen?, hg, Bool.and_eq_false_iff, decide_eq_false_iff_not]
      rcases hfz with h | h
      · injection h with h1 h2
        right; omega
      · left; simp only at h; omega
    have hst : (store ((⟨g, o, none⟩ : Addr).add i) v).run P w = .ok () (w.setRow g (cur.setIfInBounds (o + i) v)) := by
      rw [add_plain, run_store P w _ v _ (h1 v (by simp)), hcell]
      simp [hfro, setCell_eq_setRow w g (o + i) cur t fz v hg]
    have ih := run_storeCells_atM P g o t fz rest (i + 1) (cur.setIfInBounds (o + i) v) (w.setRow g (cur.setIfInBounds (o + i) v)) (setRow_heap w g cur _ t _ hg) (by simpa using hfz) (by simp at hl ⊢; omega) (fun x hx => h1 x (by simp [hx]))
    simp only [storeCells, Sem.run_bind, hst, Result.andThen_ok, ih, setRow_setRow]
    congr 3
    have e := list_seg_step cur.toList (o + i) v rest (by simp at hl ⊢; omega)
    simpa [Array.toList_setIfInBounds, Nat.add_assoc] using e

theorem run_copy_M {P : Program} (w : World) (dT sT ty elem : TypeId) (g o dLen dCap : Nat) (a : Addr) (sLen sCap : Nat) (cur : Array Value) (t : TypeId) (fz : Nat × Nat) (hfz : fz = (0, 0) ∨ cur.size ≤ fz.1) (cs : List Value)
    (hu : P.underlying dT = some (.slice elem)) (hs : (P.info? elem).map (·.size) = some 1)
    (hg : w.heap[g]? = some (.cells cur t fz)) (hn : cs.length = Nat.min sLen dLen)
    (hsrc : ∀ j v, cs[j]? = some v → w.cell? (a.add j) = some v) (hfit : o + cs.length ≤ cur.size) (h1 : ∀ v ∈ cs, v.oneCell' = true) :
    (Builtin.copy_ #[dT, sT] ty #[.slice (some ⟨g, o, none⟩) dLen dCap, .slice (some a) sLen sCap]).run P w =
      .ok (goInt cs.length) (w.setRow g (cur.toList.take o ++ cs ++ cur.toList.drop (o + cs.length)).toArray) := by
  have hl := run_loadCells_list (P := P) w a cs hsrc
  have hst := run_storeCells_atM P g o t fz cs 0 cur w hg hfz (by simpa using hfit) h1
  cases hq : P.info? elem with
  | none => simp [hq] at hs
  | some i =>
    have hi : i.size = 1 := by simpa [hq] using hs
    simp [Builtin.copy_, run_underlying hu, Builtin.lenOf, Builtin.firstCells, sizeOf, typeInfo, hq, hi, ← hn, hl, hst]

/-- What '[]byte(s)' leaves. -/
theorem mrow_conv (w : World) (s : ByteArray) (C : Nat) (hC : s.size ≤ C) (hCm : C ≤ maxLen) : MRow (w.alloc (.cells (bytesRow s C) 5 ((bytesRow s C).size, (bytesRow s C).size + 1))) (.slice (some ⟨w.heap.size, 0, none⟩) s.size C) s.data.toList := by
  have hsl : s.data.toList.length = s.size := by simp
  refine ⟨w.heap.size, C, bytesRow s C, _, by rw [hsl], heap_alloc_new w _, Or.inr (Nat.le_refl _), by rw [hsl]; exact hC, hCm, ?_, ?_⟩
  · rw [← bytesRow_list]; simp [Lib.byteCells_length]; omega
  · rw [← bytesRow_list, List.toList_toArray]
    exact List.take_left' (Lib.byteCells_length _)
end Go.Proofs.YthmhnknkidkdlaaGreatDoor
namespace Go.Proofs.YthmhnknkidkdlaaGreatDoor
open Go.RowKit

/-- The string of a row. -/
theorem mrow_string (w : World) (v : Value) (l : List UInt8) (h : MRow w v l) : (convert 47 9 v).run Tryz.prog w = .ok (.string (str l)) w := by
  obtain ⟨g, cap, rfl, hs⟩ := h.seg
  exact run_convert_seg (P := Tryz.prog) (src := 47) (e := 5) (dst := 9) Tryz.underlying47 Tryz.underlying5 Tryz.underlying9 cap hs
end Go.Proofs.YthmhnknkidkdlaaGreatDoor
