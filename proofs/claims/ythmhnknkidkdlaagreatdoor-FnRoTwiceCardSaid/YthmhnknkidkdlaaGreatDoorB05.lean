/-
  impl.memory: a file in memory that is written behind its end.
  car.zzCopy: what its 512 bytes are laid as.
  binary.LittleEndian: numbers written into a stretch of a block that is known whole, and read out of bytes.
  readerToScanner: Read and ReadByte over a bytes.Reader where bytes are left.
  (No condition beyond those that each theorem states.)
-/
import Derived.Test.YthmhnknkidkdlaaGreatDoorB02
import Derived.Test.YthmhnknkidkdlaaGreatDoorB03
import Derived.Test.YthmhnknkidkdlaaGreatDoorB04
import Derived.LoopTactic
import Derived.LoopN
import Derived.Deep.LoopGhost
import Derived.Test.YthmhnknkidkdlaaGreatDoorB01
namespace Go.Proofs.YthmhnknkidkdlaaGreatDoor
open Go.RowKit

/-- What is kept: all blocks but m, but g0 and but rows of bytes from B on. -/
structure Mk (m g0 B : Nat) (w w' : World) : Prop where
  os : w'.os = w.os
  tape : w'.tape = w.tape
  output : w'.output = w.output
  size : w.heap.size ≤ w'.heap.size
  block : ∀ k, k < w.heap.size → k ≠ m → k ≠ g0 → (B ≤ k → ∀ cs fz, w.heap[k]? ≠ some (.cells cs 5 fz)) → w'.heap[k]? = w.heap[k]?
theorem Mk.trans {m g0 B : Nat} {w w1 w2 : World} (h : Mk m g0 B w w1) (k : Mk m g0 B w1 w2) : Mk m g0 B w w2 :=
  ⟨k.os.trans h.os, k.tape.trans h.tape, k.output.trans h.output, Nat.le_trans h.size k.size, fun i hi h1 h2 h3 => by
    have e := h.block i hi h1 h2 h3
    exact (k.block i (Nat.lt_of_lt_of_le hi h.size) h1 h2 (fun hB cs fz => by rw [e]; exact h3 hB cs fz)).trans e⟩
theorem Mk.ofOff {m g0 B : Nat} {w w' : World} {S : List Nat} (h : Off S w w') (hS : ∀ x, x ∈ S → x = m ∨ x = g0 ∨ (B ≤ x ∧ ∃ cs fz, w.heap[x]? = some (.cells cs 5 fz))) : Mk m g0 B w w' :=
  ⟨h.os, h.tape, h.output, h.size, fun k hk h1 h2 h3 => h.block k hk (fun hx => by
    rcases hS k hx with h4 | h4 | ⟨h4, cs, fz, h5⟩
    · exact h1 h4
    · exact h2 h4
    · exact h3 h4 cs fz h5)⟩
theorem Mk.blk {m g0 B g : Nat} {w w' : World} {t : TypeId} {cs : Array Value} (h : Mk m g0 B w w') (hb : Blk w g t cs) (h1 : g ≠ m) (h2 : g ≠ g0) (ht : t ≠ 5) : Blk w' g t cs :=
  (h.block g hb.lt h1 h2 (fun _ cs' fz e => by
    unfold Blk at hb
    rw [hb] at e
    injection e with e
    injection e with _ e _
    exact ht e)).trans hb
theorem Mk.seg {m g0 B g o : Nat} {w w' : World} {l : List UInt8} (h : Mk m g0 B w w') (hs : Seg w g o l) (h1 : g ≠ m) (h2 : g ≠ g0) (h3 : g < B) : Seg w' g o l := by
  by_cases hl : 0 < l.length
  · exact hs.keep fun p hp => World.cell?_of_block (h.block p.block (by rw [hp]; exact hs.lt hl) (by rw [hp]; exact h1) (by rw [hp]; exact h2) (fun hB => by rw [hp] at hB; omega))
  · obtain rfl : l = [] := List.eq_nil_of_length_eq_zero (by omega)
    exact Seg.nil
/-- Block m is a file in memory that holds l and stands at a; its row lies in block g0, or from B on. -/
structure MemAt (m g0 B : Nat) (l : List UInt8) (a : Nat) (w : World) : Prop where
  ex : ∃ v, Blk w m 63 #[v, .int .i64 (a : Int)] ∧ MRow w v l ∧ ∀ x, v.ownBlock = some x → x = g0 ∨ B ≤ x
theorem MemAt.lt {m g0 B a : Nat} {l : List UInt8} {w : World} (h : MemAt m g0 B l a w) : m < w.heap.size := by obtain ⟨v, hb, _⟩ := h.ex; exact hb.lt
theorem MemAt.off {m g0 B a : Nat} {l : List UInt8} {w w' : World} {S : List Nat} (h : MemAt m g0 B l a w) (k : Off S w w') (hm : m ∉ S) (hS : ∀ x, x ∈ S → x ≠ g0 ∧ (B ≤ x → x < w.heap.size → ∃ t cs, t ≠ 5 ∧ Blk w x t cs)) : MemAt m g0 B l a w' := by
  obtain ⟨v, hb, hr, hx⟩ := h.ex
  refine ⟨v, k.blk hb hm, hr.off k (fun x hv hxS => ?_), hx⟩
  obtain ⟨h1, h2⟩ := hS x hxS
  rcases hx x hv with h3 | h3
  · exact h1 h3
  · obtain ⟨t, cs, ht, hb2⟩ := h2 h3 (hr.lt x hv)
    exact hr.type hb2 ht hv

theorem ne_of_types {w : World} {x g : Nat} {t : TypeId} {cs : Array Value} (hb : Blk w g t cs) (ht : t ≠ 5) (h : ∃ cs fz, w.heap[x]? = some (.cells cs 5 fz)) : x ≠ g := by
  rintro rfl
  obtain ⟨cs', fz, h⟩ := h
  unfold Blk at hb
  rw [h] at hb
  injection hb with hb
  injection hb with _ hb _
  exact ht hb.symm

end Go.Proofs.YthmhnknkidkdlaaGreatDoor
namespace Go.Proofs.YthmhnknkidkdlaaGreatDoor
open Go.RowKit

def cellsIn : Value → Array Value
  | .agg c => c
  | _ => #[]
theorem zero512 : ∃ C : Array Value, C.size = 512 ∧ ∀ W : World, (zeroValue 148).run Tryz.prog W = .ok (.agg C) W := by
  refine ⟨cellsIn (((Tryz.prog.info? 148).get (by kernel_rfl)).zero.get (by kernel_rfl)), by kernel_rfl, fun W => by kernel_rfl⟩
theorem splice0 (cur : List Value) (l : List UInt8) : splice cur 0 (Lib.byteCells l) = Lib.byteCells l ++ cur.drop l.length := by
  simp [splice, Lib.byteCells_length]
theorem splice0_length (cur : List Value) (l : List UInt8) (h : l.length ≤ cur.length) : (splice cur 0 (Lib.byteCells l)).length = cur.length := by
  rw [splice0, List.length_append, Lib.byteCells_length, List.length_drop]; omega
end Go.Proofs.YthmhnknkidkdlaaGreatDoor
namespace Go.Proofs.YthmhnknkidkdlaaGreatDoor
open Go.RowKit

theorem blk_parts {w : World} {g o : Nat} {t : TypeId} {pre mid post : List Value} (hb : Blk w g t (pre ++ (mid ++ post)).toArray) (hp : pre.length = o) (j : Nat) (hj : j < mid.length) :
    w.cell? ⟨g, o + j, none⟩ = some mid[j] ∧ w.frozen? ⟨g, o + j, none⟩ = false := by
  refine ⟨?_, hb.frozen _⟩
  rw [hb.cell, List.getElem?_toArray, List.getElem?_append_right (by omega), List.getElem?_append_left (by omega)]
  simp [← hp, hj]

theorem off_setCells (g : Nat) : ∀ (vs : List Value) (o : Nat) (w : World), Off [g] w (w.setCells g o vs)
  | [], _, w => Off.refl [g] w
  | v :: vs, o, w => by
    show Off [g] w ((w.setCell ⟨g, o, none⟩ v).setCells g (o + 1) vs)
    exact ((Off.refl [g] w).setCell (p := ⟨g, o, none⟩) (Or.inl (List.mem_singleton.2 rfl)) v).then (off_setCells g vs (o + 1) _) (fun x hx => Or.inl hx)

theorem putLE32_blk (g o n c v : Nat) (t : TypeId) (pre mid post : List Value) (hv : v < 4294967296) (w : World) (hn : 4 ≤ n) (hp : pre.length = o) (hm : mid.length = 4) (hb : Blk w g t (pre ++ (mid ++ post)).toArray) :
    Calls Tryz.prog 180 #[.agg #[], .slice (some ⟨g, o, none⟩) n c, .int .u32 v] w fun e w' => e = .returned (.tuple #[]) ∧ Blk w' g t (pre ++ (Lib.byteCells (Lib.leBytes 4 v) ++ post)).toArray ∧ Off [g] w w' := by
  have h := fun j hj => blk_parts hb hp j hj
  refine (Tryz.binary_LE_PutUint32 g o n c v hv _ _ _ _ w hn (h 0 (by omega)).1 (h 1 (by omega)).1 (h 2 (by omega)).1 (h 3 (by omega)).1 (h 0 (by omega)).2 (h 1 (by omega)).2 (h 2 (by omega)).2 (h 3 (by omega)).2).mono ?_
  rintro e w' ⟨he, rfl⟩
  exact ⟨he, Blk.setCells _ o _ pre mid post hp (by rw [hm]; rfl) (hb.alloc _), (Off.alloc (Off.refl [g] w) _).then (off_setCells g _ o _) (fun x hx => Or.inl hx)⟩

theorem putLE64_blk (g o n c v : Nat) (t : TypeId) (pre mid post : List Value) (hv : v < 18446744073709551616) (w : World) (hn : 8 ≤ n) (hp : pre.length = o) (hm : mid.length = 8) (hb : Blk w g t (pre ++ (mid ++ post)).toArray) :
    Calls Tryz.prog 57 #[.agg #[], .slice (some ⟨g, o, none⟩) n c, .int .u64 v] w fun e w' => e = .returned (.tuple #[]) ∧ Blk w' g t (pre ++ (Lib.byteCells (Lib.leBytes 8 v) ++ post)).toArray ∧ Off [g] w w' := by
  have h := fun j hj => blk_parts hb hp j hj
  refine (Tryz.binary_LE_PutUint64 g o n c v hv _ _ _ _ _ _ _ _ w hn (h 0 (by omega)).1 (h 1 (by omega)).1 (h 2 (by omega)).1 (h 3 (by omega)).1 (h 4 (by omega)).1 (h 5 (by omega)).1 (h 6 (by omega)).1 (h 7 (by omega)).1
    (h 0 (by omega)).2 (h 1 (by omega)).2 (h 2 (by omega)).2 (h 3 (by omega)).2 (h 4 (by omega)).2 (h 5 (by omega)).2 (h 6 (by omega)).2 (h 7 (by omega)).2).mono ?_
  rintro e w' ⟨he, rfl⟩
  exact ⟨he, Blk.setCells _ o _ pre mid post hp (by rw [hm]; rfl) (hb.alloc _), (Off.alloc (Off.refl [g] w) _).then (off_setCells g _ o _) (fun x hx => Or.inl hx)⟩

theorem uintLE64_seg (g o n c v : Nat) (hv : v < 18446744073709551616) (w : World) (hn : 8 ≤ n) (hs : Seg w g o (Lib.leBytes 8 v)) :
    Calls Tryz.prog 73 #[.agg #[], .slice (some ⟨g, o, none⟩) n c] w fun e w' => e = .returned (.int .u64 v) ∧ Below w.heap.size w w' := by
  obtain ⟨b0, b1, b2, b3, b4, b5, b6, b7, hl⟩ : ∃ b0 b1 b2 b3 b4 b5 b6 b7, Lib.leBytes 8 v = [b0, b1, b2, b3, b4, b5, b6, b7] := ⟨_, _, _, _, _, _, _, _, rfl⟩
  have hv' := Lib.leNat_leBytes 8 v (by omega)
  rw [hl] at hs hv'
  refine (Tryz.binary_LE_Uint64 g o n c b0 b1 b2 b3 b4 b5 b6 b7 w hn (hs 0 (by simp)) (hs 1 (by simp)) (hs 2 (by simp)) (hs 3 (by simp)) (hs 4 (by simp)) (hs 5 (by simp)) (hs 6 (by simp)) (hs 7 (by simp))).mono ?_
  rintro e w' ⟨he, hw⟩
  rw [hv'] at he
  exact ⟨he, hw⟩
end Go.Proofs.YthmhnknkidkdlaaGreatDoor
namespace Go.Proofs.YthmhnknkidkdlaaGreatDoor
open Go.RowKit

/-- Block T is a readerToScanner over the bytes.Reader R. -/
def TsC (w : World) (T R : Nat) (x y z : Int) : Prop := Blk w T 237 #[.iface 55 (.pointer (some ⟨R, 0, none⟩)), .int .u8 x, .int .u8 y, .int .u8 z]

/-- io.EOF is an error. -/
def Eof (w : World) : Prop := ∃ q, w.cell? ⟨1, 0, none⟩ = some (.iface 152 q)
theorem Eof.off {S : List Nat} {a b : World} (h : Eof a) (k : Off S a b) (hS : 1 ∉ S) : Eof b := by
  obtain ⟨q, hq⟩ := h
  exact ⟨q, (World.cell?_of_block (k.block _ (World.block_lt_of_cell? _ _ hq) hS)).trans hq⟩

theorem nil_eof (q : Value) (w : World) : (binOp .eql 53 .nilIface (.iface 152 q)).run Tryz.prog w = .ok (.bool false) w := by kernel_rfl
theorem nil_read (a : Addr) (w : World) : (nilAhead 480 55 (.pointer (some a)) "Read").run Tryz.prog w = .ok (some false) w := by kernel_rfl
theorem method_read (a : Addr) (w : World) : (method 480 55 (.pointer (some a)) "Read").run Tryz.prog w = .ok (142, .pointer (some a)) w := by kernel_rfl
theorem method_readByte (a : Addr) (w : World) : (method 480 55 (.pointer (some a)) "ReadByte").run Tryz.prog w = .ok (143, .pointer (some a)) w := by kernel_rfl

set_option maxRecDepth 100000 in
set_option maxHeartbeats 1000000 in
theorem tReadSelf (T R b n cap i : Nat) (p x y z : Int) (l : List UInt8) (w : World) (hn : n = l.length) (hT : TsC w T R x y z) (hy : (y == 1) = false) (hR : RdC w R b n cap i p) (hs : Seg w b 0 l) (hRb : R ≠ b) (hRT : R ≠ T) (hi : i < n) (hL : n ≤ 2147483700) (hcap : n ≤ cap) (c : Int) (hc : ((l[i]'(hn ▸ hi)).toNat : Int) = c)
    (hE : Eof w) (hET : 1 ≠ T) (hER : 1 ≠ R) :
    Calls Tryz.prog 270 #[.pointer (some ⟨T, 0, none⟩), .slice (some ⟨T, 3, none⟩) 1 1] w fun e w' => e = .returned (.tuple #[.int .i64 1, .nilIface]) ∧ TsC w' T R c 2 c ∧ RdC w' R b n cap (i + 1) (-1) ∧ Off [T, R] w w' := by
  have c0 := hT.cell 0
  have c1 := hT.cell 1
  have c2 := hT.cell 2
  have c3 := hT.cell 3
  simp at c0 c1 c2 c3
  have hk : (1 : Nat) = Nat.min (n - i) 1 := by show 1 = min (n - i) 1; omega
  have e1 : Lib.byteCells ((l.drop i).take 1) = [.int .u8 c] := by
    have : (l.drop i).take 1 = [l[i]'(hn ▸ hi)] := by rw [List.drop_eq_getElem_cons (hn ▸ hi)]; rfl
    rw [this, ← hc]; rfl
  have HC := Lib.hid (brRead R T 3 1 1 b n cap i 1 p l [.iface 55 (.pointer (some ⟨R, 0, none⟩)), .int .u8 x, .int .u8 y, .int .u8 z] 237 w hn hR hs hT hRb hRT hi hk (by omega) (by simp) hL hcap)
  rw [e1] at HC
  have hm1 := method_read
  have hm2 := nil_read
  have hq := nil_eof
  have HE := Lib.hid hE
  clear hT hR hs hn hk e1 hc hE
  go_enter Tryz.func270, Tryz.ntmps270
  go_wp2_with fail
  refine HC.out.mono ?_
  rintro e w1 ⟨rfl, hR1, hT1, hO1⟩
  have hE1 := HE.out.off hO1 (by simp; exact ⟨hER, hET⟩)
  obtain ⟨q, hq1⟩ := hE1
  have c0 := hT1.cell 0
  have c1 := hT1.cell 1
  have c2 := hT1.cell 2
  have c3 := hT1.cell 3
  have f1 := hT1.frozen 1
  have f2 := hT1.frozen 2
  simp [splice] at c0 c1 c2 c3
  have HR1 := Lib.hid hR1
  have HT1 := Lib.hid hT1
  have HO1 := Lib.hid hO1
  clear hR1 hT1 hO1
  go_wp2_with fail
  go_ret2
  exact ⟨rfl, (HT1.out.set_ 1 _).set_ 2 _, (HR1.out.far (p := ⟨T, 1, none⟩) hRT _).far (p := ⟨T, 2, none⟩) hRT _, ((HO1.out.mono (S' := [T, R]) (fun x h => by simp at h; rcases h with h | h <;> simp [h])).setCell (p := ⟨T, 1, none⟩) (by simp) _).setCell (p := ⟨T, 2, none⟩) (by simp) _⟩

set_option maxRecDepth 100000 in
set_option maxHeartbeats 1000000 in
theorem tRead (T R g o m dc b n cap i k : Nat) (p x y z : Int) (l : List UInt8) (cur : List Value) (t : TypeId) (w : World) (hn : n = l.length) (hT : TsC w T R x y z) (hy : (y == 1) = false) (hR : RdC w R b n cap i p) (hs : Seg w b 0 l) (hg : Blk w g t cur.toArray) (hRb : R ≠ b) (hRT : R ≠ T) (hRg : R ≠ g) (hTg : T ≠ g) (hi : i < n) (hk : k = Nat.min (n - i) m) (hk0 : 0 < k) (hfit : o + k ≤ cur.length) (hL : n ≤ 2147483700) (hcap : n ≤ cap)
    (hE : Eof w) (_hET : 1 ≠ T) (hER : 1 ≠ R) (hEg : 1 ≠ g) :
    Calls Tryz.prog 270 #[.pointer (some ⟨T, 0, none⟩), .slice (some ⟨g, o, none⟩) m dc] w fun e w' => e = .returned (.tuple #[.int .i64 k, .nilIface]) ∧ (∃ x', TsC w' T R x' 2 z) ∧ RdC w' R b n cap (i + k) (-1) ∧ Blk w' g t (splice cur o (Lib.byteCells ((l.drop i).take k))).toArray ∧ Off [T, R, g] w w' := by
  have c0 := hT.cell 0
  have c1 := hT.cell 1
  have c2 := hT.cell 2
  have c3 := hT.cell 3
  simp at c0 c1 c2 c3
  have hkm : k ≤ m := by rw [hk]; exact Nat.min_le_right _ _
  have hkn : k ≤ n - i := by rw [hk]; exact Nat.min_le_left _ _
  have hkl : ((l.drop i).take k).length = k := by simp; omega
  have HC := Lib.hid (brRead R g o m dc b n cap i k p l cur t w hn hR hs hg hRb hRg hi hk hk0 hfit hL hcap)
  have hm1 := method_read
  have hm2 := nil_read
  have hq := nil_eof
  have HE := Lib.hid hE
  have HKL := Lib.hid hkl
  have HF := Lib.hid hfit
  have HT := Lib.hid hT
  have hw1 : IntKind.i64.wrap ((k : Int) - 1) = ((k - 1 : Nat) : Int) := by rw [IntKind.wrap_i64]; omega
  have hb1 : k - 1 < m := by omega
  clear hT hR hs hg hn hk hE hkl hfit
  go_enter Tryz.func270, Tryz.ntmps270
  go_wp2_with fail
  refine HC.out.mono ?_
  rintro e w1 ⟨rfl, hR1, hg1, hO1⟩
  have hE1 := HE.out.off hO1 (by simp; exact ⟨hER, hEg⟩)
  obtain ⟨q, hq1⟩ := hE1
  have hT1 := hO1.blk HT.out (by simp; exact ⟨fun e => hRT e.symm, hTg⟩)
  have k1 := hT1.cell 1
  have k2 := hT1.cell 2
  simp at k1 k2
  have f1 := hT1.frozen 1
  have f2 := hT1.frozen 2
  obtain ⟨v, hv⟩ : ∃ v : Int, w1.cell? ⟨g, o + (k - 1), none⟩ = some (.int .u8 v) := by
    refine ⟨(((l.drop i).take k)[k - 1]'(by rw [HKL.out]; omega)).toNat, ?_⟩
    rw [hg1.cell]
    have e1 : (cur.take o).length = o := by rw [List.length_take]; have := HF.out; omega
    simp only [splice, List.getElem?_toArray]
    rw [List.getElem?_append_right (by rw [e1]; omega), e1, List.getElem?_append_left (by rw [Lib.byteCells_length, HKL.out]; omega)]
    rw [show o + (k - 1) - o = k - 1 from by omega]
    have e2 : k - 1 < ((l.drop i).take k).length := by rw [HKL.out]; omega
    simp only [Lib.byteCells, List.getElem?_map, List.getElem?_eq_getElem e2]
    rfl
  have HR1 := Lib.hid hR1
  have HT1 := Lib.hid hT1
  have Hg1 := Lib.hid hg1
  have HO1 := Lib.hid hO1
  clear hR1 hT1 hg1 hO1 HC
  go_wp2_with fail
  go_ret2
  exact ⟨rfl, ⟨_, (HT1.out.set_ 1 _).set_ 2 _⟩, (HR1.out.far (p := ⟨T, 1, none⟩) hRT _).far (p := ⟨T, 2, none⟩) hRT _, (Hg1.out.far (p := ⟨T, 1, none⟩) (fun e => hTg e.symm) _).far (p := ⟨T, 2, none⟩) (fun e => hTg e.symm) _, ((HO1.out.mono (S' := [T, R, g]) (fun x h => by simp at h; rcases h with h | h <;> simp [h])).setCell (p := ⟨T, 1, none⟩) (by simp) _).setCell (p := ⟨T, 2, none⟩) (by simp) _⟩

set_option maxRecDepth 100000 in
set_option maxHeartbeats 1000000 in
theorem tReadByte (T R b n cap i : Nat) (p x y z : Int) (l : List UInt8) (w : World) (hn : n = l.length) (hT : TsC w T R x y z) (hy : (y == 1) = false) (hR : RdC w R b n cap i p) (hs : Seg w b 0 l) (hRb : R ≠ b) (hRT : R ≠ T) (hi : i < n) (hL : n ≤ 2147483700) (hcap : n ≤ cap) (c : Int) (hc : ((l[i]'(hn ▸ hi)).toNat : Int) = c)
    (hE : Eof w) (hET : 1 ≠ T) (hER : 1 ≠ R) :
    Calls Tryz.prog 271 #[.pointer (some ⟨T, 0, none⟩)] w fun e w' => e = .returned (.tuple #[.int .u8 c, .nilIface]) ∧ TsC w' T R c 2 c ∧ RdC w' R b n cap (i + 1) (-1) ∧ Off [T, R] w w' := by
  have HC := Lib.hid (tReadSelf T R b n cap i p x y z l w hn hT hy hR hs hRb hRT hi hL hcap c hc hE hET hER)
  have hq := nil_eof
  have HE := Lib.hid hE
  clear hT hR hs hn hE hc
  go_enter Tryz.func271, Tryz.ntmps271
  go_wp2_with fail
  refine HC.out.mono ?_
  rintro e w1 ⟨rfl, hT1, hR1, hO1⟩
  have hE1 := HE.out.off hO1 (by simp; exact ⟨hET, hER⟩)
  obtain ⟨q, hq1⟩ := hE1
  have c3 := hT1.cell 3
  simp at c3
  have HR1 := Lib.hid hR1
  have HT1 := Lib.hid hT1
  have HO1 := Lib.hid hO1
  clear hR1 hT1 hO1
  go_wp2_with fail
  go_ret2
  exact ⟨rfl, HT1.out, HR1.out, HO1.out⟩
end Go.Proofs.YthmhnknkidkdlaaGreatDoor
