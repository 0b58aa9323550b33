/-
  Words for memory: a stretch of cells that reads as bytes; what keeps it. No program is named here.
  Rows of bytes: zero bytes, a row that is made, a row's cells.
  What a call leaves as it was: all old blocks but a few named ones. No program is named here.
  impl.options where a length of zero is the end, or not: eight settings.
  (No condition beyond those that each theorem states.)
-/
import Derived.WalkKit
import Derived.Lib.Hide
import Derived.Lib.Varint
import Derived.Lib.VarintMem
import Derived.Lib.VarintBits
import Derived.Lib.BitFns
import Derived.Deep.Draws
import Derived.Deep.Upon
import Derived.Laws.BytesArg
import Derived.Laws.IdiomStrings
import Derived.Laws.CopyOwn
import Derived.Test.YtkdbjocchponfaaGreatDoorProg
import Derived.WalkSpells
import Derived.WalkLawsBesides
import Derived.Deep.RegionWith
import Derived.Deep.RegionLaw
import Derived.Deep.RegionHeld3
import Derived.Laws.EntriesVeiled
namespace Go.Proofs.YtkdbjocchponfaaGreatDoor
open Go.RowKit

/-- The cells from place o of block b on read as the bytes l. -/
def Seg (w : World) (b o : Nat) (l : List UInt8) : Prop := ∀ i (h : i < l.length), w.cell? ⟨b, o + i, none⟩ = some (.int .u8 (l[i].toNat : Int))

/-- Block g is just the cells cs, of type t, none frozen. -/
def Blk (w : World) (g : Nat) (t : TypeId) (cs : Array Value) : Prop := w.heap[g]? = some (.cells cs t (0, 0))

section
variable {w w' : World} {b o g : Nat} {l l1 l2 : List UInt8} {t : TypeId} {cs : Array Value}

theorem Seg.nil : Seg w b o [] := fun i h => by simp at h
theorem Seg.left (h : Seg w b o (l1 ++ l2)) : Seg w b o l1 := fun i hi => by
  have := h i (by simp; omega)
  rwa [List.getElem_append_left hi] at this
theorem Seg.right (h : Seg w b o (l1 ++ l2)) : Seg w b (o + l1.length) l2 := fun i hi => by
  have := h (l1.length + i) (by simp; omega)
  rw [List.getElem_append_right (by omega)] at this
  simpa [Nat.add_assoc] using this
theorem Seg.drop (h : Seg w b o l) (k : Nat) (hk : k ≤ l.length) : Seg w b (o + k) (l.drop k) := by
  have h2 : Seg w b o (l.take k ++ l.drop k) := by rw [List.take_append_drop]; exact h
  have := h2.right
  rwa [List.length_take, Nat.min_eq_left hk] at this
theorem Seg.take (h : Seg w b o l) (k : Nat) : Seg w b o (l.take k) := by
  have h2 : Seg w b o (l.take k ++ l.drop k) := by rw [List.take_append_drop]; exact h
  exact h2.left
theorem Seg.keep (h : Seg w b o l) (hk : ∀ p : Addr, p.block = b → w'.cell? p = w.cell? p) : Seg w' b o l := fun i hi => (hk _ rfl).trans (h i hi)
theorem Seg.below {B : Nat} (h : Seg w b o l) (hb : Below B w w') (hB : b < B) : Seg w' b o l := h.keep fun p hp => hb.cell (by rw [hp]; exact hB)
theorem Seg.drew (h : Seg w b o l) : Seg w.drew b o l := h
theorem Seg.lt (h : Seg w b o l) (hl : 0 < l.length) : b < w.heap.size := World.block_lt_of_cell? w _ (h 0 hl)
theorem Seg.alloc (h : Seg w b o l) (hb : b < w.heap.size) (ob : Obj) : Seg (w.alloc ob) b o l := h.keep fun p hp => World.cell?_alloc_lt w ob p (by omega)
theorem Seg.setCell (h : Seg w b o l) {p : Addr} (hp : p.block ≠ b) (u : Value) : Seg (w.setCell p u) b o l :=
  h.keep fun q hq => World.cell?_setCell_other w p q u (fun e => hp (by rw [e, hq]))
theorem Seg.cast (h : Seg w b o l) {o' : Nat} (e : o = o') : Seg w b o' l := e ▸ h
theorem Seg.of_block {fr : Nat × Nat} {cs : List Value} (h : w.heap[b]? = some (.cells cs.toArray t fr)) (hc : ∀ i (hi : i < l.length), cs[o + i]? = some (.int .u8 (l[i].toNat : Int))) : Seg w b o l := fun i hi => by
  rw [cell_of_row w b (o + i) _ t fr h]
  simpa using hc i hi
theorem Seg.of_bytes {fr : Nat × Nat} {post : List Value} (h : w.heap[b]? = some (.cells (Lib.byteCells l ++ post).toArray t fr)) : Seg w b 0 l :=
  Seg.of_block h fun i hi => by
    rw [Nat.zero_add, List.getElem?_append_left (by rw [Lib.byteCells_length]; exact hi)]
    simp [Lib.byteCells, List.getElem?_eq_getElem hi]

theorem Blk.lt (h : Blk w g t cs) : g < w.heap.size := by
  rcases Nat.lt_or_ge g w.heap.size with hlt | hge
  · exact hlt
  · unfold Blk at h; rw [Array.getElem?_eq_none hge] at h; cases h
theorem Blk.cell (h : Blk w g t cs) (i : Nat) : w.cell? ⟨g, i, none⟩ = cs[i]? := cell_of_row w g i cs t (0, 0) h
theorem Blk.frozen (h : Blk w g t cs) (i : Nat) : w.frozen? ⟨g, i, none⟩ = false := by
  unfold Blk at h
  simp [World.frozen?, h]
theorem Blk.new (w : World) (t : TypeId) (cs : Array Value) : Blk (w.alloc (.cells cs t)) w.heap.size t cs := heap_alloc_new w _
theorem size_alloc (w : World) (ob : Obj) : (w.alloc ob).heap.size = w.heap.size + 1 := by simp
theorem Blk.new' (w : World) (t : TypeId) (cs : Array Value) {g : Nat} (hg : g = w.heap.size) : Blk (w.alloc (.cells cs t)) g t cs := by rw [hg]; exact heap_alloc_new w _
theorem Blk.drew (h : Blk w g t cs) : Blk w.drew g t cs := h
theorem Blk.drewN (h : Blk w g t cs) (n : Nat) : Blk (w.drewN n) g t cs := h
theorem Blk.alloc (h : Blk w g t cs) (ob : Obj) : Blk (w.alloc ob) g t cs := (Below.heap_alloc w ob g h.lt).trans h
theorem Blk.set_ (h : Blk w g t cs) (i : Nat) (u : Value) : Blk (w.setCell ⟨g, i, none⟩ u) g t (cs.setIfInBounds i u) := by
  unfold Blk at h ⊢
  simp [World.setCell, Array.getElem?_modify, h]
theorem Blk.far (h : Blk w g t cs) {p : Addr} (hp : g ≠ p.block) (u : Value) : Blk (w.setCell p u) g t cs := (Below.heap_setCell w p u g hp).trans h
theorem Blk.seg {post : List Value} (h : Blk w g t (Lib.byteCells l ++ post).toArray) : Seg w g 0 l := Seg.of_bytes (post := post) h
theorem Blk.seg' (h : Blk w g t (Lib.byteCells l).toArray) : Seg w g 0 l := Seg.of_bytes (post := []) (by rw [List.append_nil]; exact h)

/-- Nothing but draws lies between two worlds. -/
def Drew (w w' : World) : Prop := ∃ n, w.drewN n = w'
theorem Drew.refl (w : World) : Drew w w := ⟨0, rfl⟩
theorem Drew.one (w : World) : Drew w w.drew := ⟨1, rfl⟩
theorem Drew.drewN (w : World) (n : Nat) : Drew w (w.drewN n) := ⟨n, rfl⟩
theorem Drew.trans {a b c : World} (h : Drew a b) (k : Drew b c) : Drew a c := by
  obtain ⟨m, rfl⟩ := h
  obtain ⟨n, rfl⟩ := k
  exact ⟨m + n, (World.drewN_drewN ..).symm⟩
theorem Drew.more {a b : World} (h : Drew a b) (n : Nat) : Drew a (b.drewN n) := h.trans (Drew.drewN b n)
theorem Drew.below {a b : World} (h : Drew a b) (B : Nat) : Below B a b := by
  obtain ⟨n, rfl⟩ := h
  exact ⟨rfl, rfl, rfl, Nat.le_refl _, fun _ _ => rfl⟩
theorem Drew.size {a b : World} (h : Drew a b) : b.heap.size = a.heap.size := by obtain ⟨n, rfl⟩ := h; rfl
theorem Drew.seg {a b : World} (h : Drew a b) {g o : Nat} {l : List UInt8} (hs : Seg a g o l) : Seg b g o l := by obtain ⟨n, rfl⟩ := h; exact hs
theorem Drew.blk {a b : World} (h : Drew a b) {g : Nat} {t : TypeId} {cs : Array Value} (hs : Blk a g t cs) : Blk b g t cs := by obtain ⟨n, rfl⟩ := h; exact hs

theorem Blk.fill1 {a a' : Value} (h : Blk w g t #[a]) : Blk (w.setCell ⟨g, 0, none⟩ a') g t #[a'] := h.set_ 0 a'
theorem Blk.fill4 {a b c d a' b' c' d' : Value} (h : Blk w g t #[a, b, c, d]) :
    Blk ((((w.setCell ⟨g, 0, none⟩ a').setCell ⟨g, 1, none⟩ b').setCell ⟨g, 2, none⟩ c').setCell ⟨g, 3, none⟩ d') g t #[a', b', c', d'] := (((h.set_ 0 a').set_ 1 b').set_ 2 c').set_ 3 d'
theorem below_fill4 {B : Nat} {W : World} {a' b' c' d' : Value} (h : Below B W w) (hg : B ≤ g) : Below B W ((((w.setCell ⟨g, 0, none⟩ a').setCell ⟨g, 1, none⟩ b').setCell ⟨g, 2, none⟩ c').setCell ⟨g, 3, none⟩ d') :=
  (((h.setCell (p := ⟨g, 0, none⟩) hg a').setCell (p := ⟨g, 1, none⟩) hg b').setCell (p := ⟨g, 2, none⟩) hg c').setCell (p := ⟨g, 3, none⟩) hg d'
theorem results_row_tmp {P : Program} {fn : Func} {p u : Tmp} {ty : TypeId} (h : fn.results = #[.cell p ty, .tmp u]) (tmps : Array Value) {W : World} {d : TypeDesc}
    (hg : Blk W g t cs) (hp : tmps.getD p undef = .pointer (some ⟨g, 0, none⟩)) (hu : P.underlying ty = some d) (hd : (match d with | .struct _ | .array _ _ => true | _ => false) = true) (hi : (P.info? ty).map (·.size) = some cs.size) :
    (results fn tmps).run P W = .ok (.tuple #[.agg cs, tmps.getD u undef]) W := by
  rw [results_cell_tmp h, hp]
  simp [asAddr, run_loadVar_row W g t ty cs (0, 0) d hg hu hd hi]
theorem results_row {P : Program} {fn : Func} {p : Tmp} {ty : TypeId} (h : fn.results = #[.cell p ty]) (tmps : Array Value) {W : World} {d : TypeDesc}
    (hg : Blk W g t cs) (hp : tmps.getD p undef = .pointer (some ⟨g, 0, none⟩)) (hu : P.underlying ty = some d) (hd : (match d with | .struct _ | .array _ _ => true | _ => false) = true) (hi : (P.info? ty).map (·.size) = some cs.size) :
    (results fn tmps).run P W = .ok (.agg cs) W := results_cell_row h tmps W g t cs (0, 0) d hp hg hu hd hi

/-- A row of bytes, a stretch of which is written over: still the block, with other bytes. -/
theorem Blk.setCells (vs : List Value) : ∀ (o : Nat) (w : World) (pre mid post : List Value), pre.length = o → mid.length = vs.length → Blk w g t (pre ++ (mid ++ post)).toArray → Blk (w.setCells g o vs) g t (pre ++ (vs ++ post)).toArray := by
  induction vs with
  | nil => intro o w pre mid post _ hm h; obtain rfl : mid = [] := List.eq_nil_of_length_eq_zero (by rw [hm]; rfl); exact h
  | cons v vs ih =>
    intro o w pre mid post hp hm h
    match mid, hm with
    | m :: mid, hm =>
      have h1 := h.set_ o v
      have e : ((pre ++ (m :: mid ++ post)).toArray).setIfInBounds o v = ((pre ++ [v]) ++ (mid ++ post)).toArray := by
        subst hp
        simp
      rw [e] at h1
      have h2 := ih (o + 1) (w.setCell ⟨g, o, none⟩ v) (pre ++ [v]) mid post (by simp [hp]) (by simpa using hm) h1
      have e2 : (pre ++ [v]) ++ (vs ++ post) = pre ++ (v :: vs ++ post) := by simp
      rw [e2] at h2
      exact h2
theorem below_setCells {B : Nat} (hg : B ≤ g) (vs : List Value) : ∀ (o : Nat) (w : World), Below B w (w.setCells g o vs) := by
  induction vs with
  | nil => exact fun _ w => Below.refl _ w
  | cons v vs ih => exact fun o w => ((Below.refl B w).setCell (p := ⟨g, o, none⟩) hg v).trans (ih (o + 1) _)
theorem Blk.setCells_far (vs : List Value) : ∀ (o : Nat) (w : World) (k : Nat), g ≠ k → Blk w g t cs → Blk (w.setCells k o vs) g t cs := by
  induction vs with
  | nil => exact fun _ _ _ _ h => h
  | cons v vs ih => exact fun o w k hk h => ih (o + 1) _ k hk (h.far (p := ⟨k, o, none⟩) hk v)
theorem setCells_size (vs : List Value) (g : Nat) : ∀ (o : Nat) (w : World), (w.setCells g o vs).heap.size = w.heap.size := by
  induction vs with
  | nil => exact fun _ _ => rfl
  | cons v vs ih => exact fun o w => (ih (o + 1) _).trans (by simp [World.setCell])
theorem grown_setCells (vs : List Value) (g : Nat) : ∀ (o : Nat) (w : World), w.grownBy (w.setCells g o vs) (some g) := by
  intro o w
  have h1 := below_setCells (B := 0) (Nat.zero_le g) vs o w
  refine ⟨h1.os, h1.tape, h1.output, by rw [setCells_size]; exact Nat.le_refl _, fun k hk hne => World.heap_setCells_other w g o vs hk (fun e => hne (by rw [e]))⟩
end
end Go.Proofs.YtkdbjocchponfaaGreatDoor
namespace Go.Proofs.YtkdbjocchponfaaGreatDoor
open Go.RowKit

theorem Tryz.infoByte : (Tryz.prog.info? 5).map (fun i => (i.zero, i.size, i.bytes)) = some (some (.int .u8 0), 1, 1) := by kernel_rfl

theorem Tryz.sizeByte : (Tryz.prog.info? 5).map (·.size) = some 1 := by kernel_rfl
theorem byteCells_one (l : List UInt8) : ∀ v ∈ Lib.byteCells l, v.oneCell' = true := by
  intro v hv
  simp only [Lib.byteCells, List.mem_map] at hv
  obtain ⟨x, _, rfl⟩ := hv
  rfl
theorem byteCells_get (l : List UInt8) (j : Nat) (v : Value) (h : (Lib.byteCells l)[j]? = some v) : ∃ h : j < l.length, v = .int .u8 (l[j].toNat : Int) := by
  simp only [Lib.byteCells, List.getElem?_map, Option.map_eq_some_iff] at h
  obtain ⟨x, hx, rfl⟩ := h
  obtain ⟨hj, rfl⟩ := List.getElem?_eq_some_iff.1 hx
  exact ⟨hj, rfl⟩
theorem add_plain (b o j : Nat) : (⟨b, o, none⟩ : Addr).add j = ⟨b, o + j, none⟩ := by unfold Addr.add; split <;> simp_all
theorem Seg.cells {w : World} {b o : Nat} {l : List UInt8} (h : Seg w b o l) : ∀ j v, (Lib.byteCells l)[j]? = some v → w.cell? ((⟨b, o, none⟩ : Addr).add j) = some v := by
  intro j v hv
  obtain ⟨hj, rfl⟩ := byteCells_get l j v hv
  rw [add_plain]; exact h j hj

/-- So many zero bytes. -/
def zeroBytes (n : Nat) : List Value := Lib.byteCells (List.replicate n 0)
theorem zeroBytes_length (n : Nat) : (zeroBytes n).length = n := by simp [zeroBytes, Lib.byteCells_length]
theorem zeroBytes_append (m n : Nat) : zeroBytes (m + n) = zeroBytes m ++ zeroBytes n := by simp [zeroBytes, Lib.byteCells, List.replicate_append_replicate]
theorem madeCells_bytes (n : Nat) : madeCells (Value.int .u8 0).cells n = (zeroBytes n).toArray := by
  apply Array.ext
  · simp [size_madeCells, zeroBytes, Lib.byteCells]
  · intro i h1 h2
    simp [madeCells, zeroBytes, Lib.byteCells, Value.cells, Nat.mod_one]
theorem run_makeBytes {P : Program} {t e : TypeId} {i : TypeInfo} (ht : P.underlying t = some (.slice e)) (hi : P.info? e = some i) (hz : i.zero = some (.int .u8 0)) (hs : i.size = 1) (hb : i.bytes = 1)
    (n : Nat) (hn : n ≤ 281474976710656) (w : World) (k : IntKind := .i64) :
    (Instr.makeSlice t (.int k (n : Int)) (.int k (n : Int))).run P w = .ok (.slice (some ⟨w.heap.size, 0, none⟩) n n) (w.alloc (.cells (zeroBytes n).toArray e)) := by
  have hr := run_make (P := P) w t e i (.int .u8 0) ht hi hz k k (n : Int) (n : Int) (by omega) (by omega) (by rw [hb]; omega) (by omega)
  simp only [Int.toNat_natCast, hs, Nat.mul_one, madeCells_bytes] at hr
  exact hr

theorem run_sliceAt_arr {P : Program} {t e n : Nat} {i : TypeInfo} (ht : P.underlying t = some (.array n e)) (hi : P.info? e = some i) (g o h : Nat) (hh : h ≤ n) (W : World) :
    (Instr.sliceAt t (.pointer (some ⟨g, o, none⟩)) none (some (.int .i64 (h : Int))) none).run P W = .ok (.slice (some ⟨g, o, none⟩) h n) W := by
  have hz : (⟨g, o, none⟩ : Addr).add 0 = ⟨g, o, none⟩ := by rw [add_plain]; rfl
  simp [Instr.sliceAt, Instr.sureAddr, run_underlying ht, Instr.sliceBounds, run_sliceBound, sizeOf, typeInfo, hi, hh, hz]
/-- The string of some bytes. -/
abbrev str (l : List UInt8) : ByteArray := ⟨l.toArray⟩

theorem run_convert_seg {P : Program} {W : World} {b o : Nat} {l : List UInt8} {src e dst : TypeId} (hs : P.underlying src = some (.slice e)) (he : P.underlying e = some (.int .u8)) (hd : P.underlying dst = some .string) (cap : Nat) (h : Seg W b o l) :
    (convert src dst (.slice (some ⟨b, o, none⟩) l.length cap)).run P W = .ok (.string (str l)) W := by
  have hr := run_convert_bytes_arg W src e hs he b o l.length cap (l.map fun x => (x.toNat : Int)) (by simp) (fun i hi => by
    rw [h i hi]; simp [List.getD, List.getElem?_eq_getElem hi]) dst hd
  rw [hr]
  have : strOfNums (l.map fun x => (x.toNat : Int)) = str l := by
    apply ByteArray.ext
    apply Array.ext'
    rw [strOfNums_data]
    simp [Function.comp_def]
  rw [this]

theorem bytesRow_list (s : ByteArray) (c : Nat) : (Lib.byteCells s.data.toList ++ List.replicate (c - s.size) (Value.int .u8 0)).toArray = bytesRow s c := by
  apply Array.ext'
  simp [bytesRow, Lib.byteCells]

end Go.Proofs.YtkdbjocchponfaaGreatDoor
namespace Go.Proofs.YtkdbjocchponfaaGreatDoor
open Go.RowKit

/-- All blocks of w but those in S are in w' as they were. -/
structure Off (S : List Nat) (w w' : World) : Prop where
  os : w'.os = w.os
  tape : w'.tape = w.tape
  output : w'.output = w.output
  size : w.heap.size ≤ w'.heap.size
  block : ∀ k, k < w.heap.size → k ∉ S → w'.heap[k]? = w.heap[k]?

section
variable {w w' a b c : World} {S S' : List Nat} {g : Nat} {t : TypeId} {cs : Array Value} {l : List UInt8} {o : Nat}

theorem Off.refl (S : List Nat) (w : World) : Off S w w := ⟨rfl, rfl, rfl, Nat.le_refl _, fun _ _ _ => rfl⟩
theorem Off.trans (h : Off S a b) (k : Off S' b c) : Off (S ++ S') a c :=
  ⟨k.os.trans h.os, k.tape.trans h.tape, k.output.trans h.output, Nat.le_trans h.size k.size, fun i hi hn => by
    simp at hn
    exact (k.block i (Nat.lt_of_lt_of_le hi h.size) hn.2).trans (h.block i hi hn.1)⟩
/-- New blocks of the middle world need no name. -/
theorem Off.then (h : Off S a b) (k : Off S' b c) (hs : ∀ x, x ∈ S' → x ∈ S ∨ a.heap.size ≤ x) : Off S a c :=
  ⟨k.os.trans h.os, k.tape.trans h.tape, k.output.trans h.output, Nat.le_trans h.size k.size, fun i hi hn => by
    have hn' : i ∉ S' := fun hx => by
      rcases hs i hx with h1 | h1
      · exact hn h1
      · omega
    exact (k.block i (Nat.lt_of_lt_of_le hi h.size) hn').trans (h.block i hi hn)⟩
theorem Off.mono (h : Off S a b) (hs : ∀ x, x ∈ S → x ∈ S' ∨ a.heap.size ≤ x) : Off S' a b :=
  ⟨h.os, h.tape, h.output, h.size, fun i hi hn => h.block i hi (fun hx => by
    rcases hs i hx with h1 | h1
    · exact hn h1
    · omega)⟩
theorem Off.drew (h : Off S a b) : Off S a b.drew := ⟨h.os, h.tape, h.output, h.size, h.block⟩
theorem Off.drewN (h : Off S a b) (n : Nat) : Off S a (b.drewN n) := ⟨h.os, h.tape, h.output, h.size, h.block⟩
theorem Off.ofDrew (h : Drew a b) : Off S a b := by
  obtain ⟨n, rfl⟩ := h
  exact (Off.refl S a).drewN n
theorem Off.alloc (h : Off S a b) (ob : Obj) : Off S a (b.alloc ob) :=
  ⟨h.os, h.tape, h.output, by have := h.size; simp; omega, fun i hi hn => by
    have hlt : i < b.heap.size := Nat.lt_of_lt_of_le hi h.size
    rw [← h.block i hi hn]
    exact Below.heap_alloc b ob i hlt⟩
theorem Off.setCell (h : Off S a b) {p : Addr} (hp : p.block ∈ S ∨ a.heap.size ≤ p.block) (u : Value) : Off S a (b.setCell p u) :=
  ⟨h.os, h.tape, h.output, by have := h.size; simp [World.setCell]; omega, fun i hi hn => by
    rw [← h.block i hi hn]
    exact Below.heap_setCell b p u i (fun e => by
      rcases hp with h1 | h1
      · exact hn (e ▸ h1)
      · omega)⟩
theorem Off.below (h : Off S a b) (hS : ∀ x, x ∈ S → a.heap.size ≤ x) : Below a.heap.size a b :=
  ⟨h.os, h.tape, h.output, h.size, fun i hi => h.block i hi (fun hx => by have := hS i hx; omega)⟩
theorem Off.ofBelow (h : Below a.heap.size a b) : Off S a b := ⟨h.os, h.tape, h.output, h.size, fun i hi _ => h.block i hi⟩
theorem Off.ofGrown (h : a.grownBy b (some g)) : Off [g] a b := ⟨h.os, h.tape, h.output, h.size, fun i hi hn => h.block i hi (fun e => hn (by injection e with e; simp [e]))⟩
theorem Off.blk (k : Off S a b) (h : Blk a g t cs) (hg : g ∉ S) : Blk b g t cs := (k.block g h.lt hg).trans h
theorem Off.seg (k : Off S a b) (h : Seg a g o l) (hg : g ∉ S) : Seg b g o l := by
  by_cases hl : 0 < l.length
  · exact h.keep fun p hp => World.cell?_of_block (k.block p.block (by rw [hp]; exact h.lt hl) (by rw [hp]; exact hg))
  · obtain rfl : l = [] := List.eq_nil_of_length_eq_zero (by omega)
    exact Seg.nil
/-- .. over a world that is the middle one but for draws. -/
theorem Off.next {b' : World} (h : Off S a b) (k : Off S' b' c) (e : b'.heap = b.heap ∧ b'.os = b.os ∧ b'.tape = b.tape ∧ b'.output = b.output) (hs : ∀ x, x ∈ S' → x ∈ S ∨ a.heap.size ≤ x) : Off S a c :=
  h.then ⟨k.os.trans e.2.1, k.tape.trans e.2.2.1, k.output.trans e.2.2.2, by rw [← e.1]; exact k.size, fun i hi hn => by rw [← e.1] at hi ⊢; exact k.block i hi hn⟩ hs
theorem Blk.off (h : Blk a g t cs) (k : Off S a b) (hg : g ∉ S) : Blk b g t cs := (k.block g h.lt hg).trans h
theorem Seg.off (h : Seg a g o l) (k : Off S a b) (hg : g ∉ S) : Seg b g o l := by
  by_cases hl : 0 < l.length
  · exact h.keep fun p hp => World.cell?_of_block (k.block p.block (by rw [hp]; exact h.lt hl) (by rw [hp]; exact hg))
  · obtain rfl : l = [] := List.eq_nil_of_length_eq_zero (by omega)
    exact Seg.nil
theorem off_setRow {fr : Nat × Nat} {cur : Array Value} (_h : a.heap[g]? = some (.cells cur t fr)) (u : Array Value) : Off [g] a (a.setRow g u) :=
  Off.ofGrown (by
    exact ⟨rfl, rfl, rfl, by simp [World.setRow], fun k _ hne => by
      simp [World.setRow, Array.getElem?_modify]
      intro e
      exact absurd (by rw [e]) hne⟩)

theorem Blk.at {g' : Nat} (h : Blk a g t cs) (e : g = g') : Blk a g' t cs := e ▸ h
theorem Blk.eq {cs' : Array Value} (h : Blk a g t cs) (e : cs = cs') : Blk a g t cs' := e ▸ h
theorem ni1 {x a : Nat} (h : x ≠ a) : x ∉ [a] := by simp; exact h
theorem ni2 {x a b : Nat} (h : x ≠ a) (k : x ≠ b) : x ∉ [a, b] := by simp; exact ⟨h, k⟩
theorem ni3 {x a b c : Nat} (h : x ≠ a) (k : x ≠ b) (l : x ≠ c) : x ∉ [a, b, c] := by simp; exact ⟨h, k, l⟩
/-- 'copy' into a row, as one step of a region that draws. -/
theorem step_copyO {P : Program} {ops : Array Oper} {o : Oper} {A : Act} {w : World} {K : Act → World → Prop} {Q : Exit → Act → World → Prop} {E : Prop} (hgd : o.guard = none) (d s : Operand) (dT sT : TypeId)
    (ho : o.op = .call { callee := .builtin .copy, args := #[d, s], argTypes := #[dT, sT] }) (elem : TypeId) (hu : P.underlying dT = some (.slice elem)) (hsz : (P.info? elem).map (·.size) = some 1)
    (g off : Nat) (cur : List Value) (t : TypeId) (hg : Blk w g t cur.toArray) (cs : List Value)
    (hfit : off + cs.length ≤ cur.length) (h1 : ∀ v ∈ cs, v.oneCell' = true) (dLen dCap sLen sCap : Nat) (ad : Addr)
    (hd : A.eval d = .slice (some ⟨g, off, none⟩) dLen dCap) (hs : A.eval s = .slice (some ad) sLen sCap) (hn : cs.length = Nat.min sLen dLen)
    (hpos : ∀ j v, cs[j]? = some v → w.cell? (ad.add j) = some v) (N : Nat) (hN : cs.length = N)
    (h : ∀ w', Hid (Blk w' g t (splice cur off cs).toArray) → Hid (Off [g] w w') → K (A.put o.dst (.int .i64 (N : Int))) w') :
    if Region.wanted o (yielded ops A.tmps) = true then Oper.wp P o A w K Q else E := by
  have hw : Region.wanted o (yielded ops A.tmps) = true := by simp [Region.wanted, hgd]
  rw [if_pos hw]
  have hrun := run_copy_row (P := P) w dT sT o.type elem g off dLen dCap ad sLen sCap cur.toArray t cs hu hsz hg hn hpos (by simpa using hfit) h1
  unfold Oper.wp
  simp [execOp, ho, resolve, invoke, builtin, hd, hs, hrun, Result.andThen]
  subst hN
  exact h _ (Lib.hid (show _ = _ by simpa [splice] using setRow_heap w g _ _ t _ hg)) (Lib.hid (off_setRow hg _))
end
end Go.Proofs.YtkdbjocchponfaaGreatDoor
namespace Go.Proofs.YtkdbjocchponfaaGreatDoor
open Go.RowKit

/-- A setting: the function that writes it, over its value's box. -/
abbrev setting (f g : Nat) : Value := .func (.func f) #[] #[.pointer (some ⟨g, 0, none⟩)]
theorem run_mf (fn : Fn) (first cap : Array Value) (w : World) : (Instr.makeFunc fn first cap).run Tryz.prog w = .ok (.func fn first cap) w := rfl

theorem optZeroLengthSectionAsEOF (v : Bool) (w : World) :
    Calls Tryz.prog 31 #[.bool v] w fun e w' => e = .returned (setting 59 w.heap.size) ∧ Blk w' w.heap.size 4 #[.bool v] ∧ Off [] w w' ∧ w'.heap.size = w.heap.size + 1 := by
  have hmf := run_mf
  go_enter Tryz.func31, Tryz.ntmps31
  go_wp2_with fail
  go_ret
  exact ⟨rfl, Blk.new w _ _, (Off.refl [] w).alloc _, by simp⟩

theorem optStoreIdentityCIDs (v : Bool) (w : World) :
    Calls Tryz.prog 32 #[.bool v] w fun e w' => e = .returned (setting 60 w.heap.size) ∧ Blk w' w.heap.size 4 #[.bool v] ∧ Off [] w w' ∧ w'.heap.size = w.heap.size + 1 := by
  have hmf := run_mf
  go_enter Tryz.func32, Tryz.ntmps32
  go_wp2_with fail
  go_ret
  exact ⟨rfl, Blk.new w _ _, (Off.refl [] w).alloc _, by simp⟩

theorem optAllowDuplicatePuts (v : Bool) (w : World) :
    Calls Tryz.prog 33 #[.bool v] w fun e w' => e = .returned (setting 61 w.heap.size) ∧ Blk w' w.heap.size 4 #[.bool v] ∧ Off [] w w' ∧ w'.heap.size = w.heap.size + 1 := by
  have hmf := run_mf
  go_enter Tryz.func33, Tryz.ntmps33
  go_wp2_with fail
  go_ret
  exact ⟨rfl, Blk.new w _ _, (Off.refl [] w).alloc _, by simp⟩

theorem optUseWholeCIDs (v : Bool) (w : World) :
    Calls Tryz.prog 34 #[.bool v] w fun e w' => e = .returned (setting 62 w.heap.size) ∧ Blk w' w.heap.size 4 #[.bool v] ∧ Off [] w w' ∧ w'.heap.size = w.heap.size + 1 := by
  have hmf := run_mf
  go_enter Tryz.func34, Tryz.ntmps34
  go_wp2_with fail
  go_ret
  exact ⟨rfl, Blk.new w _ _, (Off.refl [] w).alloc _, by simp⟩

theorem optWriteAsCarV1 (v : Bool) (w : World) :
    Calls Tryz.prog 35 #[.bool v] w fun e w' => e = .returned (setting 63 w.heap.size) ∧ Blk w' w.heap.size 4 #[.bool v] ∧ Off [] w w' ∧ w'.heap.size = w.heap.size + 1 := by
  have hmf := run_mf
  go_enter Tryz.func35, Tryz.ntmps35
  go_wp2_with fail
  go_ret
  exact ⟨rfl, Blk.new w _ _, (Off.refl [] w).alloc _, by simp⟩

theorem optWithTrustedCAR (v : Bool) (w : World) :
    Calls Tryz.prog 36 #[.bool v] w fun e w' => e = .returned (setting 64 w.heap.size) ∧ Blk w' w.heap.size 4 #[.bool v] ∧ Off [] w w' ∧ w'.heap.size = w.heap.size + 1 := by
  have hmf := run_mf
  go_enter Tryz.func36, Tryz.ntmps36
  go_wp2_with fail
  go_ret
  exact ⟨rfl, Blk.new w _ _, (Off.refl [] w).alloc _, by simp⟩

theorem optUseDataPadding (v : Int) (w : World) :
    Calls Tryz.prog 37 #[.int .u64 v] w fun e w' => e = .returned (setting 65 w.heap.size) ∧ Blk w' w.heap.size 30 #[.int .u64 v] ∧ Off [] w w' ∧ w'.heap.size = w.heap.size + 1 := by
  have hmf := run_mf
  go_enter Tryz.func37, Tryz.ntmps37
  go_wp2_with fail
  go_ret
  exact ⟨rfl, Blk.new w _ _, (Off.refl [] w).alloc _, by simp⟩

theorem optUseIndexPadding (v : Int) (w : World) :
    Calls Tryz.prog 38 #[.int .u64 v] w fun e w' => e = .returned (setting 66 w.heap.size) ∧ Blk w' w.heap.size 30 #[.int .u64 v] ∧ Off [] w w' ∧ w'.heap.size = w.heap.size + 1 := by
  have hmf := run_mf
  go_enter Tryz.func38, Tryz.ntmps38
  go_wp2_with fail
  go_ret
  exact ⟨rfl, Blk.new w _ _, (Off.refl [] w).alloc _, by simp⟩

/-- No options but that a length of zero is the end (z). -/
def zOpt (z : Bool) : Array Value := #[.bool z, .bool false, .bool false, .bool false, .bool false, .bool false, .int .u64 0, .int .u64 0, .int .u64 0, .int .u64 0, .int .u64 0, .int .u64 0]

/-- Block g holds the eight settings, each over its own box. -/
def OptsZ (z : Bool) (w : World) (g p1 p2 p3 p4 p5 p6 p7 p8 : Nat) : Prop := Blk w g 78 #[setting 59 p1, setting 60 p2, setting 61 p3, setting 62 p4, setting 63 p5, setting 64 p6, setting 65 p7, setting 66 p8] ∧ Blk w p1 4 #[.bool z] ∧ Blk w p2 4 #[.bool false] ∧ Blk w p3 4 #[.bool false] ∧ Blk w p4 4 #[.bool false] ∧ Blk w p5 4 #[.bool false] ∧ Blk w p6 4 #[.bool false] ∧ Blk w p7 30 #[.int .u64 0] ∧ Blk w p8 30 #[.int .u64 0]
theorem OptsZ.off {z : Bool} {a b : World} {S : List Nat} {g p1 p2 p3 p4 p5 p6 p7 p8 : Nat} (h : OptsZ z a g p1 p2 p3 p4 p5 p6 p7 p8) (k : Off S a b) (hS : ∀ x, x ∈ S → a.heap.size ≤ x) : OptsZ z b g p1 p2 p3 p4 p5 p6 p7 p8 := by
  obtain ⟨h0, h1, h2, h3, h4, h5, h6, h7, h8⟩ := h
  have ok : ∀ {q : Nat} {t : TypeId} {cs : Array Value}, Blk a q t cs → Blk b q t cs := fun hq => k.blk hq (fun e => absurd (hS _ e) (Nat.not_le.2 hq.lt))
  exact ⟨ok h0, ok h1, ok h2, ok h3, ok h4, ok h5, ok h6, ok h7, ok h8⟩

set_option maxRecDepth 100000 in
set_option maxHeartbeats 4000000 in
theorem options_z (z : Bool) (w : World) :
    Calls Tryz.prog 19 #[.agg (zOpt z)] w fun e w' => ∃ g p1 p2 p3 p4 p5 p6 p7 p8, e = .returned (.slice (some ⟨g, 0, none⟩) 8 8) ∧ OptsZ z w' g p1 p2 p3 p4 p5 p6 p7 p8 ∧ Off [] w w' := by
  have hb := Blk.new w 36 (zOpt z)
  have HB := Lib.hid hb
  unfold zOpt
  clear hb
  go_enter Tryz.func19, Tryz.ntmps19
  go_wp2_with fail
  go_region_held3 (fun w' => Blk w' w.heap.size 36 (zOpt z) ∧ w'.cell? ⟨w.heap.size, 0, none⟩ = some (.bool z) ∧ w'.cell? ⟨w.heap.size, 1, none⟩ = some (.bool false) ∧ w'.cell? ⟨w.heap.size, 2, none⟩ = some (.bool false) ∧ w'.cell? ⟨w.heap.size, 3, none⟩ = some (.bool false) ∧ w'.cell? ⟨w.heap.size, 4, none⟩ = some (.bool false) ∧ w'.cell? ⟨w.heap.size, 5, none⟩ = some (.bool false) ∧ w'.cell? ⟨w.heap.size, 6, none⟩ = some (.int .u64 0) ∧ w'.cell? ⟨w.heap.size, 7, none⟩ = some (.int .u64 0)) (first | (exact ⟨HB.out, HB.out.cell 0, HB.out.cell 1, HB.out.cell 2, HB.out.cell 3, HB.out.cell 4, HB.out.cell 5, HB.out.cell 6, HB.out.cell 7⟩) | (exact ⟨K1.out, K1.out.cell 0, K1.out.cell 1, K1.out.cell 2, K1.out.cell 3, K1.out.cell 4, K1.out.cell 5, K1.out.cell 6, K1.out.cell 7⟩) | (exact ⟨K2.out, K2.out.cell 0, K2.out.cell 1, K2.out.cell 2, K2.out.cell 3, K2.out.cell 4, K2.out.cell 5, K2.out.cell 6, K2.out.cell 7⟩) | (exact ⟨K3.out, K3.out.cell 0, K3.out.cell 1, K3.out.cell 2, K3.out.cell 3, K3.out.cell 4, K3.out.cell 5, K3.out.cell 6, K3.out.cell 7⟩) | (exact ⟨K4.out, K4.out.cell 0, K4.out.cell 1, K4.out.cell 2, K4.out.cell 3, K4.out.cell 4, K4.out.cell 5, K4.out.cell 6, K4.out.cell 7⟩) | (exact ⟨K5.out, K5.out.cell 0, K5.out.cell 1, K5.out.cell 2, K5.out.cell 3, K5.out.cell 4, K5.out.cell 5, K5.out.cell 6, K5.out.cell 7⟩) | (exact ⟨K6.out, K6.out.cell 0, K6.out.cell 1, K6.out.cell 2, K6.out.cell 3, K6.out.cell 4, K6.out.cell 5, K6.out.cell 6, K6.out.cell 7⟩) | (exact ⟨K7.out, K7.out.cell 0, K7.out.cell 1, K7.out.cell 2, K7.out.cell 3, K7.out.cell 4, K7.out.cell 5, K7.out.cell 6, K7.out.cell 7⟩) | (exact ⟨K8.out, K8.out.cell 0, K8.out.cell 1, K8.out.cell 2, K8.out.cell 3, K8.out.cell 4, K8.out.cell 5, K8.out.cell 6, K8.out.cell 7⟩) | (exact ⟨K8.out.alloc _, (K8.out.alloc _).cell 0, (K8.out.alloc _).cell 1, (K8.out.alloc _).cell 2, (K8.out.alloc _).cell 3, (K8.out.alloc _).cell 4, (K8.out.alloc _).cell 5, (K8.out.alloc _).cell 6, (K8.out.alloc _).cell 7⟩)) (first
    | (go_at_call 31; refine (optZeroLengthSectionAsEOF _ _).mono ?_; rintro e w1 ⟨rfl, b1, o1, z1⟩; have k1 : Blk w1 w.heap.size 36 (zOpt z) := o1.blk (show Blk _ _ _ _ from HB.out) (by simp); have B1 := Lib.hid b1; have O1 := Lib.hid o1; have K1 := Lib.hid k1; have Z1 := Lib.hid z1; clear b1 o1 k1 z1)
    | (go_at_call 32; refine (optStoreIdentityCIDs _ _).mono ?_; rintro e w2 ⟨rfl, b2, o2, z2⟩; have k2 : Blk w2 w.heap.size 36 (zOpt z) := o2.blk K1.out (by simp); have B2 := Lib.hid b2; have O2 := Lib.hid o2; have K2 := Lib.hid k2; have Z2 := Lib.hid z2; clear b2 o2 k2 z2)
    | (go_at_call 33; refine (optAllowDuplicatePuts _ _).mono ?_; rintro e w3 ⟨rfl, b3, o3, z3⟩; have k3 : Blk w3 w.heap.size 36 (zOpt z) := o3.blk K2.out (by simp); have B3 := Lib.hid b3; have O3 := Lib.hid o3; have K3 := Lib.hid k3; have Z3 := Lib.hid z3; clear b3 o3 k3 z3)
    | (go_at_call 34; refine (optUseWholeCIDs _ _).mono ?_; rintro e w4 ⟨rfl, b4, o4, z4⟩; have k4 : Blk w4 w.heap.size 36 (zOpt z) := o4.blk K3.out (by simp); have B4 := Lib.hid b4; have O4 := Lib.hid o4; have K4 := Lib.hid k4; have Z4 := Lib.hid z4; clear b4 o4 k4 z4)
    | (go_at_call 35; refine (optWriteAsCarV1 _ _).mono ?_; rintro e w5 ⟨rfl, b5, o5, z5⟩; have k5 : Blk w5 w.heap.size 36 (zOpt z) := o5.blk K4.out (by simp); have B5 := Lib.hid b5; have O5 := Lib.hid o5; have K5 := Lib.hid k5; have Z5 := Lib.hid z5; clear b5 o5 k5 z5)
    | (go_at_call 36; refine (optWithTrustedCAR _ _).mono ?_; rintro e w6 ⟨rfl, b6, o6, z6⟩; have k6 : Blk w6 w.heap.size 36 (zOpt z) := o6.blk K5.out (by simp); have B6 := Lib.hid b6; have O6 := Lib.hid o6; have K6 := Lib.hid k6; have Z6 := Lib.hid z6; clear b6 o6 k6 z6)
    | (go_at_call 37; refine (optUseDataPadding _ _).mono ?_; rintro e w7 ⟨rfl, b7, o7, z7⟩; have k7 : Blk w7 w.heap.size 36 (zOpt z) := o7.blk K6.out (by simp); have B7 := Lib.hid b7; have O7 := Lib.hid o7; have K7 := Lib.hid k7; have Z7 := Lib.hid z7; clear b7 o7 k7 z7)
    | (go_at_call 38; refine (optUseIndexPadding _ _).mono ?_; rintro e w8 ⟨rfl, b8, o8, z8⟩; have k8 : Blk w8 w.heap.size 36 (zOpt z) := o8.blk K7.out (by simp); have B8 := Lib.hid b8; have O8 := Lib.hid o8; have K8 := Lib.hid k8; have Z8 := Lib.hid z8; clear b8 o8 k8 z8))
  rename_i hh
  have q8 := hh.1.cell 8
  have q9 := hh.1.cell 9
  have q10 := hh.1.cell 10
  have q11 := hh.1.cell 11
  simp only [zOpt] at q8 q9 q10 q11
  have e8 : (w8.alloc (.cells #[setting 59 (w.heap.size + 1), setting 60 w1.heap.size, setting 61 w2.heap.size, setting 62 w3.heap.size, setting 63 w4.heap.size, setting 64 w5.heap.size, setting 65 w6.heap.size, setting 66 w7.heap.size] 78)).cell? ⟨w.heap.size, 8, none⟩ = some (.int .u64 0) := q8
  have e9 : (w8.alloc (.cells #[setting 59 (w.heap.size + 1), setting 60 w1.heap.size, setting 61 w2.heap.size, setting 62 w3.heap.size, setting 63 w4.heap.size, setting 64 w5.heap.size, setting 65 w6.heap.size, setting 66 w7.heap.size] 78)).cell? ⟨w.heap.size, 9, none⟩ = some (.int .u64 0) := q9
  have e10 : (w8.alloc (.cells #[setting 59 (w.heap.size + 1), setting 60 w1.heap.size, setting 61 w2.heap.size, setting 62 w3.heap.size, setting 63 w4.heap.size, setting 64 w5.heap.size, setting 65 w6.heap.size, setting 66 w7.heap.size] 78)).cell? ⟨w.heap.size, 10, none⟩ = some (.int .u64 0) := q10
  have e11 : (w8.alloc (.cells #[setting 59 (w.heap.size + 1), setting 60 w1.heap.size, setting 61 w2.heap.size, setting 62 w3.heap.size, setting 63 w4.heap.size, setting 64 w5.heap.size, setting 65 w6.heap.size, setting 66 w7.heap.size] 78)).cell? ⟨w.heap.size, 11, none⟩ = some (.int .u64 0) := q11
  clear q8 q9 q10 q11 hh
  go_wp2_with fail
  go_ret
  have a12 := O2.out
  have a23 := O3.out
  have a34 := O4.out
  have a45 := O5.out
  have a56 := O6.out
  have a67 := O7.out
  have a78 := O8.out
  have s2 := a12
  have n : ∀ x : Nat, x ∉ ([] : List Nat) := fun x => by simp
  have b1 := a78.blk (a67.blk (a56.blk (a45.blk (a34.blk (a23.blk (a12.blk B1.out (n _)) (n _)) (n _)) (n _)) (n _)) (n _)) (n _)
  have b2 := a78.blk (a67.blk (a56.blk (a45.blk (a34.blk (a23.blk B2.out (n _)) (n _)) (n _)) (n _)) (n _)) (n _)
  have b3 := a78.blk (a67.blk (a56.blk (a45.blk (a34.blk B3.out (n _)) (n _)) (n _)) (n _)) (n _)
  have b4 := a78.blk (a67.blk (a56.blk (a45.blk B4.out (n _)) (n _)) (n _)) (n _)
  have b5 := a78.blk (a67.blk (a56.blk B5.out (n _)) (n _)) (n _)
  have b6 := a78.blk (a67.blk B6.out (n _)) (n _)
  have b7 := a78.blk B7.out (n _)
  have o : Off [] w w8 := ((((((((((Off.refl [] w).alloc (.cells (zOpt z) 36)).drew).then O1.out (by simp)).then a12 (by simp)).then a23 (by simp)).then a34 (by simp)).then a45 (by simp)).then a56 (by simp)).then a67 (by simp)).then a78 (by simp)
  exact ⟨_, _, _, _, _, _, _, _, _, rfl, ⟨Blk.new w8 _ _, Blk.alloc (b1.at (by simp)) _, b2.alloc _, b3.alloc _, b4.alloc _, b5.alloc _, b6.alloc _, b7.alloc _, B8.out.alloc _⟩, o.alloc _⟩
end Go.Proofs.YtkdbjocchponfaaGreatDoor
