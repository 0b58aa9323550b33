/-
  Writing into a bytes.Buffer: numbers, and an index's rows.
  singleWidthIndex.Marshal into a bytes.Buffer.
  slices.Sort at uint32: the row; insertion, reversal, the heap. (Printed for each kind: b.sh fills in the element's type and kind.)
  (No condition beyond those that each theorem states.)
-/
import Derived.Test.YtkdbjocchponfaaGreatDoorProg
import Derived.Test.YtkdbjocchponfaaGreatDoorM01
import Derived.Test.YtkdbjocchponfaaGreatDoorM08
import Derived.Test.YtkdbjocchponfaaGreatDoorM10
import Derived.Lib.BufferOld
import Derived.Lib.BufferKept
import Derived.Deep.RegionHeld3
import Derived.Sort.AssemblyPlain
import Derived.Sort.WalkB12
import Derived.Sort.WalkB2
import Derived.Sort.WalkB3
import Derived.Sort.WalkA
import Derived.Shelf.Abstract
import Derived.Deep.LoopGhost
import Derived.LoopTactic
import Derived.IntWalk
import Derived.BigQuiet
import Derived.CellFam
namespace Go.Proofs.YtkdbjocchponfaaGreatDoor
open Go.RowKit

/-- Block b is a bytes.Buffer that holds l; all that was in w0 is as it was. -/
structure WrAt (b : Nat) (w0 : World) (l : List UInt8) (w : World) : Prop where
  le : w0.heap.size ≤ b
  buf : Lib.IsBuffer 85 5 b b (Lib.byteCells l) w
  off : Off [] w0 w

theorem WrAt.lt {b : Nat} {w0 w : World} {l : List UInt8} (h : WrAt b w0 l w) : b < w.heap.size := Lib.IsBuffer.lt h.buf
theorem WrAt.old {b : Nat} {w0 w w' : World} {l : List UInt8} (h : WrAt b w0 l w) (k : Below w.heap.size w w') : WrAt b w0 l w' := ⟨h.le, Lib.IsBuffer.old h.buf k, h.off.then (Off.ofBelow (S := []) k) (fun x hx => by simp at hx)⟩
theorem WrAt.ofDrew {b : Nat} {w0 w w' : World} {l : List UInt8} (h : WrAt b w0 l w) (k : Drew w w') : WrAt b w0 l w' := h.old (k.below _)
theorem kept_of_below {b : Option Nat} {e : TypeId} {w w' : World} (k : Below w.heap.size w w') : Lib.OthersKept e b w w' := fun i o hi _ _ => by
  have hlt : i < w.heap.size := by
    rcases Nat.lt_or_ge i w.heap.size with h | h
    · exact h
    · rw [Array.getElem?_eq_none h] at hi; cases hi
  exact (k.block i hlt).trans hi
/-- A block of another type than bytes, not the buffer, is kept. -/
theorem kept_blk {b g : Nat} {e t : TypeId} {w w' : World} {cs : Array Value} (k : Lib.OthersKept e (some b) w w') (h : Blk w g t cs) (hg : g ≠ b) (ht : t ≠ e) : Blk w' g t cs :=
  k g _ h (fun x => hg (by injection x)) (fun c fz x => ht (by injection x))

theorem run_makeB4 (W : World) : (Instr.makeSlice 32 (.int .i64 4) (.int .i64 4)).run Tryz.prog W = .ok (.slice (some ⟨W.heap.size, 0, none⟩) 4 4) (W.alloc (.cells #[.int .u8 0, .int .u8 0, .int .u8 0, .int .u8 0] 5)) := by
  obtain ⟨ib0, hbi, hbz0, hbz1, hbz2⟩ := info_parts Tryz.infoByte
  exact run_makeBytes Tryz.underlying32 hbi hbz0 hbz1 hbz2 4 (by omega) W
theorem run_makeB8 (W : World) : (Instr.makeSlice 32 (.int .i64 8) (.int .i64 8)).run Tryz.prog W = .ok (.slice (some ⟨W.heap.size, 0, none⟩) 8 8) (W.alloc (.cells #[.int .u8 0, .int .u8 0, .int .u8 0, .int .u8 0, .int .u8 0, .int .u8 0, .int .u8 0, .int .u8 0] 5)) := by
  obtain ⟨ib0, hbi, hbz0, hbz1, hbz2⟩ := info_parts Tryz.infoByte
  exact run_makeBytes Tryz.underlying32 hbi hbz0 hbz1 hbz2 8 (by omega) W
theorem method_bufWrite (a : Addr) (w : World) : (method 513 88 (.pointer (some a)) "Write").run Tryz.prog w = .ok (207, .pointer (some a)) w := by kernel_rfl
theorem nil_bufWrite (a : Addr) (w : World) : (nilAhead 513 88 (.pointer (some a)) "Write").run Tryz.prog w = .ok (some false) w := by kernel_rfl

theorem bufWrite_any {b : Nat} {w0 w : World} {l : List UInt8} (h : WrAt b w0 l w) (g o n c : Nat) (m : List UInt8) (hs : Seg w g o m) (hn : m.length = n) (hg : g ≠ b) (hlim : l.length + n ≤ 140737488355328) :
    Calls Tryz.prog 207 #[.pointer (some ⟨b, 0, none⟩), .slice (some ⟨g, o, none⟩) n c] w fun e w' => e = .returned (.tuple #[.int .i64 n, .nilIface]) ∧ WrAt b w0 (l ++ m) w' ∧ Lib.OthersKept 5 (some b) w w' := by
  refine (Tryz.Buffer_Write_any b b (Lib.byteCells l) (Lib.byteCells m) ⟨g, o, none⟩ n c w h.buf (Nat.le_of_lt h.lt) (fun v hv => Lib.byteCells_one l v hv) (by rw [Lib.byteCells_length, hn]) hg ?_ (fun v hv => Lib.byteCells_one m v hv) (by rw [Lib.byteCells_length]; exact hlim)).mono ?_
  · exact hs.cells
  · rintro e w' ⟨he, hb, hB, hk⟩
    exact ⟨he, ⟨h.le, by rw [Lib.byteCells_append]; exact hb, ⟨hB.os.trans h.off.os, hB.tape.trans h.off.tape, hB.output.trans h.off.output, Nat.le_trans h.off.size hB.size, fun i hi _ => (hB.block i (Nat.lt_of_lt_of_le hi h.le)).trans (h.off.block i hi (by simp))⟩⟩, hk⟩

set_option maxRecDepth 100000 in
set_option maxHeartbeats 1000000 in
theorem zzWrite32_any {b : Nat} {w0 w : World} {l : List UInt8} (h : WrAt b w0 l w) (n : Nat) (hn : n < 4294967296) (hlim : l.length + 4 ≤ 140737488355328) :
    Calls Tryz.prog 223 #[.iface 88 (.pointer (some ⟨b, 0, none⟩)), .int .u32 (n : Int)] w fun e w' => e = .returned .nilIface ∧ WrAt b w0 (l ++ Lib.leBytes 4 n) w' ∧ Lib.OthersKept 5 (some b) w w' := by
  have hblt := h.lt
  have hP : ∀ W, Blk W w.heap.size 5 #[.int .u8 0, .int .u8 0, .int .u8 0, .int .u8 0] → Calls Tryz.prog 229 #[.agg #[], .slice (some ⟨w.heap.size, 0, none⟩) 4 4, .int .u32 (n : Int)] W fun e w' => e = .returned (.tuple #[]) ∧ Blk w' w.heap.size 5 (Lib.byteCells (Lib.leBytes 4 n)).toArray ∧ Off [w.heap.size] W w' := fun W hW =>
    (putLE32_blk w.heap.size 0 4 4 n 5 [] [.int .u8 0, .int .u8 0, .int .u8 0, .int .u8 0] [] hn W (by omega) rfl rfl hW).mono fun e w' ⟨h1, h2, h3⟩ => ⟨h1, by simpa using h2, h3⟩
  have hW : ∀ W, WrAt b w0 l W → Blk W w.heap.size 5 (Lib.byteCells (Lib.leBytes 4 n)).toArray → Calls Tryz.prog 207 #[.pointer (some ⟨b, 0, none⟩), .slice (some ⟨w.heap.size, 0, none⟩) 4 4] W fun e w' => e = .returned (.tuple #[.int .i64 4, .nilIface]) ∧ WrAt b w0 (l ++ Lib.leBytes 4 n) w' ∧ Lib.OthersKept 5 (some b) W w' := fun W h1 h2 =>
    bufWrite_any h1 w.heap.size 0 4 4 (Lib.leBytes 4 n) h2.seg' (by rw [Lib.leBytes_length]) (by omega) hlim
  have HP := Lib.hid hP
  have HW := Lib.hid hW
  have HH := Lib.hid h
  have hm := method_bufWrite
  clear hP hW h
  have hmk : ∀ W : World, (Instr.makeSlice 32 (.int .i64 4) (.int .i64 4)).run Tryz.prog W = .ok (.slice (some ⟨W.heap.size, 0, none⟩) 4 4) (W.alloc (.cells #[.int .u8 0, .int .u8 0, .int .u8 0, .int .u8 0] 5)) := run_makeB4
  go_enter Tryz.func223, Tryz.ntmps223
  go_wp2_with (first
    | (go_at_call 229; refine (HP.out _ (Blk.new' _ _ _ rfl)).mono ?_; rintro e w1 ⟨rfl, hB1, hO1⟩)
    | (go_at_call 207; refine (HW.out _ (HH.out.old (((Off.alloc (Off.refl [w.heap.size] w) _).then hO1 (fun x hx => Or.inl hx)).below (fun x hx => by simp at hx; omega))) hB1).mono ?_; rintro e w2 ⟨rfl, hR2, hK2⟩))
  go_ret
  exact ⟨rfl, hR2, (kept_of_below (((Off.alloc (Off.refl [w.heap.size] w) _).then hO1 (fun x hx => Or.inl hx)).below (fun x hx => by simp at hx; omega))).trans hK2⟩

set_option maxRecDepth 100000 in
set_option maxHeartbeats 1000000 in
theorem zzWrite64_any {b : Nat} {w0 w : World} {l : List UInt8} (h : WrAt b w0 l w) (n : Nat) (hn : n < 18446744073709551616) (hlim : l.length + 8 ≤ 140737488355328) :
    Calls Tryz.prog 231 #[.iface 88 (.pointer (some ⟨b, 0, none⟩)), .int .u64 (n : Int)] w fun e w' => e = .returned .nilIface ∧ WrAt b w0 (l ++ Lib.leBytes 8 n) w' ∧ Lib.OthersKept 5 (some b) w w' := by
  have hblt := h.lt
  have hP : ∀ W, Blk W w.heap.size 5 #[.int .u8 0, .int .u8 0, .int .u8 0, .int .u8 0, .int .u8 0, .int .u8 0, .int .u8 0, .int .u8 0] → Calls Tryz.prog 235 #[.agg #[], .slice (some ⟨w.heap.size, 0, none⟩) 8 8, .int .u64 (n : Int)] W fun e w' => e = .returned (.tuple #[]) ∧ Blk w' w.heap.size 5 (Lib.byteCells (Lib.leBytes 8 n)).toArray ∧ Off [w.heap.size] W w' := fun W hW =>
    (putLE64_blk w.heap.size 0 8 8 n 5 [] [.int .u8 0, .int .u8 0, .int .u8 0, .int .u8 0, .int .u8 0, .int .u8 0, .int .u8 0, .int .u8 0] [] hn W (by omega) rfl rfl hW).mono fun e w' ⟨h1, h2, h3⟩ => ⟨h1, by simpa using h2, h3⟩
  have hW : ∀ W, WrAt b w0 l W → Blk W w.heap.size 5 (Lib.byteCells (Lib.leBytes 8 n)).toArray → Calls Tryz.prog 207 #[.pointer (some ⟨b, 0, none⟩), .slice (some ⟨w.heap.size, 0, none⟩) 8 8] W fun e w' => e = .returned (.tuple #[.int .i64 8, .nilIface]) ∧ WrAt b w0 (l ++ Lib.leBytes 8 n) w' ∧ Lib.OthersKept 5 (some b) W w' := fun W h1 h2 =>
    bufWrite_any h1 w.heap.size 0 8 8 (Lib.leBytes 8 n) h2.seg' (by rw [Lib.leBytes_length]) (by omega) hlim
  have HP := Lib.hid hP
  have HW := Lib.hid hW
  have HH := Lib.hid h
  have hm := method_bufWrite
  clear hP hW h
  have hmk : ∀ W : World, (Instr.makeSlice 32 (.int .i64 8) (.int .i64 8)).run Tryz.prog W = .ok (.slice (some ⟨W.heap.size, 0, none⟩) 8 8) (W.alloc (.cells #[.int .u8 0, .int .u8 0, .int .u8 0, .int .u8 0, .int .u8 0, .int .u8 0, .int .u8 0, .int .u8 0] 5)) := run_makeB8
  go_enter Tryz.func231, Tryz.ntmps231
  go_wp2_with (first
    | (go_at_call 235; refine (HP.out _ (Blk.new' _ _ _ rfl)).mono ?_; rintro e w1 ⟨rfl, hB1, hO1⟩)
    | (go_at_call 207; refine (HW.out _ (HH.out.old (((Off.alloc (Off.refl [w.heap.size] w) _).then hO1 (fun x hx => Or.inl hx)).below (fun x hx => by simp at hx; omega))) hB1).mono ?_; rintro e w2 ⟨rfl, hR2, hK2⟩))
  go_ret
  exact ⟨rfl, hR2, (kept_of_below (((Off.alloc (Off.refl [w.heap.size] w) _).then hO1 (fun x hx => Or.inl hx)).below (fun x hx => by simp at hx; omega))).trans hK2⟩
end Go.Proofs.YtkdbjocchponfaaGreatDoor
namespace Go.Proofs.YtkdbjocchponfaaGreatDoor
open Go.RowKit

set_option maxRecDepth 100000 in
set_option maxHeartbeats 2000000 in
theorem swMarshal_any {b : Nat} {w0 w : World} {l : List UInt8} (h : WrAt b w0 l w) (q W8 k m C : Nat) (R : List UInt8) (hq : Blk w q 362 #[.int .u32 (W8 : Int), .int .u64 (k : Int), .slice (some ⟨C, 0, none⟩) m m]) (hqb : q ≠ b)
    (hm : R.length = m) (hs : Seg w0 C 0 R) (hC : C < w0.heap.size) (hW8 : W8 < 4294967296) (hlim : l.length + (12 + m) ≤ 140737488355328) :
    Calls Tryz.prog 238 #[.pointer (some ⟨q, 0, none⟩), .iface 88 (.pointer (some ⟨b, 0, none⟩))] w fun e w' =>
      e = .returned (.tuple #[.int .u64 ((12 + m : Nat) : Int), .nilIface]) ∧ WrAt b w0 (l ++ (Lib.leBytes 4 W8 ++ (Lib.leBytes 8 m ++ R))) w' ∧ Lib.OthersKept 5 (some b) w w' := by
  have hCb : C ≠ b := by have := h.le; omega
  have c0 : w.cell? ⟨q, 0, none⟩ = some (.int .u32 (W8 : Int)) := hq.cell 0
  have H1 := Lib.hid (zzWrite32_any h W8 hW8 (by omega))
  have H2 : Hid (∀ W, WrAt b w0 (l ++ Lib.leBytes 4 W8) W → _) := Lib.hid fun W hW => zzWrite64_any hW m (by omega) (by rw [List.length_append, Lib.leBytes_length]; omega)
  have H3 : Hid (∀ W, WrAt b w0 (l ++ Lib.leBytes 4 W8 ++ Lib.leBytes 8 m) W → _) := Lib.hid fun W hW => bufWrite_any hW C 0 m m R (hs.off hW.off (by simp)) hm hCb (by rw [List.length_append, List.length_append, Lib.leBytes_length, Lib.leBytes_length]; omega)
  have HQ := Lib.hid hq
  have hm1 := method_bufWrite
  have hm2 := nil_bufWrite
  have hw1 : IntKind.u64.wrap (m : Int) = (m : Int) := by rw [IntKind.wrap_u64]; omega
  have hw2 : IntKind.u64.wrap (12 + (m : Int)) = 12 + (m : Int) := by rw [IntKind.wrap_u64]; omega
  have e12 : ((12 + m : Nat) : Int) = 12 + (m : Int) := by omega
  have HM := Lib.hid hm
  rw [e12]
  clear hq h hs hm e12 hlim
  go_enter Tryz.func238, Tryz.ntmps238
  go_wp2_with (go_at_call 223; refine H1.out.mono ?_; rintro e w1 ⟨rfl, hR1, hK1⟩; have hq1 := kept_blk hK1 HQ.out hqb (by decide); have c2 : w1.cell? ⟨q, 2, none⟩ = some (.slice (some ⟨C, 0, none⟩) m m) := hq1.cell 2; have HQ1 := Lib.hid hq1; have HK1 := Lib.hid hK1; clear hq1 hK1 H1 c0)
  go_wp2_with (go_at_call 231; refine (H2.out _ hR1).mono ?_; rintro e w2 ⟨rfl, hR2, hK2⟩; have hq2 := kept_blk hK2 HQ1.out hqb (by decide); have c22 : w2.cell? ⟨q, 2, none⟩ = some (.slice (some ⟨C, 0, none⟩) m m) := hq2.cell 2; have HQ2 := Lib.hid hq2; have HK2 := Lib.hid hK2; have HR2 := Lib.hid hR2; clear hq2 hK2 H2 c2 hR1 hR2)
  go_wp2_with fail
  go_region_held3 (fun w' => w'.cell? ⟨q, 2, none⟩ = some (.slice (some ⟨C, 0, none⟩) m m)) (first | exact c22 | exact c33) (first | (go_at_call 207; refine (H3.out _ (HR2.out.ofDrew (by repeat' (first | exact Drew.refl _ | exact Drew.one _ | refine Drew.more ?_ 1)))).mono ?_; rintro e w3 ⟨rfl, hR3, hK3⟩; have c33 : w3.cell? ⟨q, 2, none⟩ = some (.slice (some ⟨C, 0, none⟩) m m) := (kept_blk hK3 (HQ2.out.drewN 0) hqb (by decide)).cell 2; have HR3 := Lib.hid hR3; have HK3 := Lib.hid hK3; clear hR3 hK3))
  all_goals go_wp2_with fail
  all_goals go_ret2
  all_goals exact ⟨rfl, by have := HR3.out; rwa [List.append_assoc, List.append_assoc] at this, HK1.out.trans (HK2.out.trans HK3.out)⟩
end Go.Proofs.YtkdbjocchponfaaGreatDoor
namespace Go.Proofs.YtkdbjocchponfaaGreatDoor.Ord32
open Go.RowKit Go.Sort Go.Lib

/-- The row in block g holds d; of what was in w0 nothing else has changed. -/
structure OrdAt (g o : Nat) (t : TypeId) (w0 : World) (N : Nat) (d : Array Int) (w : World) : Prop where
  at0 : o = 0
  size : d.size = N
  off : Off [g] w0 w
  blk : ∃ sp : List Value, Blk w g t (d.toList.map (Value.int .u32) ++ sp).toArray
  room : g < w0.heap.size

variable {g o N : Nat} {t : TypeId} {w0 w w' : World} {d : Array Int} {G : Nat → Int}
theorem OrdAt.carry {S : List Nat} (h : OrdAt g o t w0 N d w) (k : Off S w w') (hS : ∀ x, x ∈ S → w0.heap.size ≤ x) : OrdAt g o t w0 N d w' := by
  obtain ⟨sp, hb⟩ := h.blk
  exact ⟨h.at0, h.size, h.off.then k (fun x hx => Or.inr (hS x hx)), ⟨sp, hb.off k (fun hx => by have := hS g hx; have := h.room; omega)⟩, h.room⟩
theorem OrdAt.drewN (h : OrdAt g o t w0 N d w) (n : Nat) : OrdAt g o t w0 N d (w.drewN n) := h.carry ((Off.refl [] w).drewN n) (fun x hx => by simp at hx)
theorem OrdAt.fresh {S : List Nat} (h : OrdAt g o t w0 N d w) (k : Off S w w') (hS : ∀ x, x ∈ S → w0.heap.size ≤ x) : OrdAt g o t w0 N d w' := h.carry k hS
theorem OrdAt.cell (h : OrdAt g o t w0 N d w) (HG : Hid (∀ i, G i = d[i]!)) : ∀ i, i < N → w.cell? ⟨g, o + i, none⟩ = some (.int .u32 (G i)) := fun i hi => by
  obtain ⟨sp, hb⟩ := h.blk
  rw [hb.cell, h.at0, Nat.zero_add, HG.out]
  have hl : i < d.size := by rw [h.size]; exact hi
  rw [List.getElem?_toArray, List.getElem?_append_left (by simpa using hl)]
  simp [hl]
theorem OrdAt.frz (h : OrdAt g o t w0 N d w) : ∀ i, i < N → w.frozen? ⟨g, o + i, none⟩ = false := fun i _ => by
  obtain ⟨sp, hb⟩ := h.blk
  exact hb.frozen _
theorem named (d : Array Int) : ∃ G : Nat → Int, Hid (∀ i, G i = d[i]!) := ⟨fun i => d[i]!, fun _ => rfl⟩
theorem set_row (d : Array Int) (sp : List Value) (i : Nat) (x : Int) (hi : i < d.size) : ((d.toList.map (Value.int .u32) ++ sp).toArray).setIfInBounds i (.int .u32 x) = ((d.setIfInBounds i x).toList.map (Value.int .u32) ++ sp).toArray := by
  rw [List.setIfInBounds_toArray]
  congr 1
  rw [List.set_append_left _ _ (by simpa using hi), Array.toList_setIfInBounds, List.map_set]
theorem OrdAt.swp (h : OrdAt g o t w0 N d w) (HG : Hid (∀ i, G i = d[i]!)) (n i j : Nat) (hi : i < N) (hj : j < N) :
    OrdAt g o t w0 N (swp d i j) (((w.drewN n).setCell ⟨g, o + i, none⟩ (.int .u32 (G j))).setCell ⟨g, o + j, none⟩ (.int .u32 (G i))) := by
  obtain ⟨sp, hb⟩ := h.blk
  refine ⟨h.at0, by rw [size_swp]; exact h.size, (((h.off.drewN n).setCell (p := ⟨g, o + i, none⟩) (Or.inl (List.mem_singleton.2 rfl)) _).setCell (p := ⟨g, o + j, none⟩) (Or.inl (List.mem_singleton.2 rfl)) _), ⟨sp, ?_⟩, h.room⟩
  have h1 := ((hb.drewN n).set_ (o + i) (.int .u32 (G j))).set_ (o + j) (.int .u32 (G i))
  refine h1.eq ?_
  rw [h.at0, Nat.zero_add, Nat.zero_add, HG.out, HG.out, set_row _ _ _ _ (by rw [h.size]; exact hi), set_row _ _ _ _ (by rw [Array.size_setIfInBounds, h.size]; exact hj)]
  rfl

set_option maxRecDepth 100000 in
theorem isNaN (x : Int) (w : World) : Calls Tryz.prog 278 #[.int .u32 x] w fun e w' => e = .returned (.bool false) ∧ w' = w := by
  go_enter Tryz.func278, Tryz.ntmps278
  go_wp2
  go_ret
  exact ⟨by simp, rfl⟩

set_option maxRecDepth 100000 in
theorem less (x y : Int) (w : World) : Calls Tryz.prog 270 #[.int .u32 x, .int .u32 y] w fun e w' => e = .returned (.bool (Sort.ltInt x y)) ∧ w' = w := by
  go_enter Tryz.func270, Tryz.ntmps270
  go_wp2_with (go_at_call 278; refine (isNaN _ _).mono ?_; rintro e w' ⟨rfl, rfl⟩)
  go_ret
  exact ⟨rfl, rfl⟩

set_option maxHeartbeats 2000000 in
set_option maxRecDepth 100000 in
theorem insertionSort_ord (cap a b : Nat) (d : Array Int) (w : World) (hA : OrdAt g o t w0 N d w) (hab : a ≤ b) (hb : b ≤ N) (hN : N < 4611686018427387904) :
    Calls Tryz.prog 264 #[.slice (some ⟨g, o, none⟩) N cap, .int .i64 a, .int .i64 b] w fun e w' => e = .returned (.tuple #[]) ∧ OrdAt g o t w0 N (insertionSort ltInt d a b) w' := by
  go_enter Tryz.func264, Tryz.ntmps264
  go_wp2
  go_loopw [6] (fun vi wr => ∃ (i : Nat) (dk : Array Int), vi = .int .i64 i ∧ a < i ∧ i ≤ b + 1 ∧ OrdAt g o t w0 N dk wr ∧ Hid (insOuter ltInt a b i dk = insOuter ltInt a b (a + 1) d)) (fun vi _ => b + 1 - (intOf vi).toNat)
  case atStart => exact ⟨a + 1, d, by go_num, by omega, by omega, hA, rfl⟩
  case round =>
    clear hA
    obtain ⟨i, dk, rfl, hai, hib, hA, HO⟩ := hrel
    go_wp2
    · go_loopw [7] (fun vj wr2 => ∃ (j : Nat) (dj : Array Int), vj = .int .i64 j ∧ a ≤ j ∧ j ≤ i ∧ OrdAt g o t w0 N dj wr2 ∧ Hid (insInner ltInt a j dj = insInner ltInt a i dk)) (fun vj _ => (intOf vj).toNat)
      case atStart => exact ⟨i, dk, rfl, by omega, Nat.le_refl _, hA, rfl⟩
      case round =>
        clear hA
        obtain ⟨j, dj, rfl, haj, hji, hA, HI⟩ := hrel
        have hlt : i < b := by assumption
        obtain ⟨G, HG⟩ := named dj
        have out : (j ≤ a ∨ ltInt (G j) (G (j - 1)) = false) → ∀ W, OrdAt g o t w0 N dj W → ∃ i' dk', Value.int .i64 ((i : Int) + 1) = .int .i64 (i' : Nat) ∧ a < i' ∧ i' ≤ b + 1 ∧ OrdAt g o t w0 N dk' W ∧ Hid (insOuter ltInt a b i' dk' = insOuter ltInt a b (a + 1) d) := fun hs W hW =>
          ⟨i + 1, dj, by go_num, by omega, by omega, hW, by show _ = _; rw [← HO.out, insOuter_go _ _ _ _ _ hlt, ← HI.out, insInner_stop _ _ _ _ (by rw [← HG.out, ← HG.out]; exact hs)]⟩
        have OUT : Hid _ := out
        clear out
        have hcw := hA.cell HG
        have hfw := hA.frz
        go_wp2
        by_cases hja : a < j
        · go_quiet (first | (go_at_call 270; refine Calls.quiet_of_same (less _ _ _)))
          go_wp2
          · have hl : ltInt (G j) (G (j - 1)) = true := by assumption
            go_region
            all_goals go_wp2
            go_roundw
            case rel => exact ⟨j - 1, swp dj j (j - 1), by congr 1; omega, by omega, by omega, hA.swp HG (nq + 1) j (j - 1) (by omega) (by omega), by show _ = _; rw [← HI.out, insInner_go ltInt a j dj hja (by rw [← HG.out, ← HG.out]; exact hl)]⟩
            case measure => simp [intOf]; omega
          · have hl : ltInt (G j) (G (j - 1)) = false := by assumption
            go_roundw
            case rel => exact OUT.out (Or.inr hl) _ (hA.drewN nq)
            case measure => simp [intOf]; omega
        · go_quiet (first | (go_at_call 270; refine Calls.quiet_of_same (less _ _ _)))
          go_wp2
          go_roundw
          case rel => exact OUT.out (Or.inl (by omega)) _ (hA.drewN nq)
          case measure => simp [intOf]; omega
    · have hge : ¬ i < b := by assumption
      go_end0
      exact ⟨rfl, by unfold insertionSort; rw [← HO.out, insOuter_stop _ _ _ _ _ hge]; exact hA⟩

set_option maxHeartbeats 1600000 in
set_option maxRecDepth 1000000 in
theorem reverseRange_ord (cap a b : Nat) (d : Array Int) (w : World) (hA : OrdAt g o t w0 N d w) (hab : a ≤ b) (hb : b ≤ N) (hN : N < 4611686018427387904) :
    Calls Tryz.prog 268 #[.slice (some ⟨g, o, none⟩) N cap, .int .i64 a, .int .i64 b] w fun e w' => e = .returned (.tuple #[]) ∧ OrdAt g o t w0 N (reverseRange d a b) w' := by
  go_enter Tryz.func268, Tryz.ntmps268
  go_wp2
  go_loopg [6, 7] (b - a) (fun k s6 s7 wr => ∃ (i jn : Nat) (jz : Int) (dk : Array Int), s6 = .int .i64 i ∧ s7 = .int .i64 jz ∧ ((i : Int) < jz → jz = jn ∧ jn < N) ∧ (¬ (i : Int) < jz → ¬ i < jn) ∧ jn - i ≤ k ∧
    OrdAt g o t w0 N dk wr ∧ Hid (reverseLoop i jn dk = reverseLoop a (b - 1) d))
  case atStart => exact ⟨a, b - 1, (b : Int) - 1, d, rfl, rfl, fun h => ⟨by omega, by omega⟩, fun h => by omega, by omega, hA, rfl⟩
  case round =>
    clear hA
    obtain ⟨i, jn, jz, dk, rfl, rfl, h1, h2, hk, hA, HE⟩ := hrel
    by_cases hlt : (i : Int) < jz
    · obtain ⟨rfl, hjn⟩ := h1 hlt
      have hij : i < jn := by omega
      obtain ⟨G, HG⟩ := named dk
      have ci := hA.cell HG i (by omega)
      have fi := hA.frz i (by omega)
      have cj := hA.cell HG jn (by omega)
      have fj := hA.frz jn (by omega)
      clear h1 h2
      go_wp2_with fail
      go_region
      go_wp2
      go_roundg (jn - 1 - (i + 1))
      case measure => omega
      case rel =>
        have heq := HE.out
        rw [reverseLoop, if_pos hij] at heq
        exact ⟨i + 1, jn - 1, (jn : Int) - 1, swp dk i jn, by simp, rfl, fun h => ⟨by omega, by omega⟩, fun h => by omega, Nat.le_refl _, hA.swp HG 1 i jn (by omega) (by omega), heq⟩
    · have hnot := h2 hlt
      go_wp2
      go_end0
      refine ⟨rfl, ?_⟩
      have heq := HE.out
      rw [reverseLoop, if_neg hnot] at heq
      rw [reverseRange, ← heq]
      exact hA

set_option maxHeartbeats 4000000 in
set_option maxRecDepth 1000000 in
theorem siftDown_ord (cap lo hi first : Nat) (d : Array Int) (w : World) (hA : OrdAt g o t w0 N d w) (hlo : lo ≤ hi) (hb : first + hi ≤ N) (hN : N < 4611686018427387904) :
    Calls Tryz.prog 275 #[.slice (some ⟨g, o, none⟩) N cap, .int .i64 lo, .int .i64 hi, .int .i64 first] w fun e w' => e = .returned (.tuple #[]) ∧ OrdAt g o t w0 N (siftDown ltInt hi first lo d) w' := by
  go_enter Tryz.func275, Tryz.ntmps275
  go_wp2
  go_loopg [8] (hi - lo) (fun kx s8 wr => ∃ (root : Nat) (dk : Array Int), s8 = .int .i64 root ∧ root ≤ hi ∧ hi - root ≤ kx ∧ OrdAt g o t w0 N dk wr ∧ Hid (siftDown ltInt hi first root dk = siftDown ltInt hi first lo d))
  case atStart => exact ⟨lo, d, rfl, hlo, Nat.le_refl _, hA, rfl⟩
  case round =>
    clear hA
    obtain ⟨root, dk, rfl, hr, hkx, hA, HE⟩ := hrel
    by_cases h0 : hi ≤ 2 * root + 1
    · have h0z : (hi : Int) ≤ 2 * (root : Int) + 1 := by omega
      go_wp2
      go_end0
      refine ⟨rfl, ?_⟩
      rw [← HE.out, sd_end ltInt dk h0]
      exact hA
    · have h0z : ¬ ((hi : Int) ≤ 2 * (root : Int) + 1) := by omega
      obtain ⟨G, HG⟩ := named dk
      have hcw := hA.cell HG
      have hfw := hA.frz
      by_cases h1 : 2 * root + 2 < hi
      · have h1z : 2 * (root : Int) + 1 + 1 < (hi : Int) := by omega
        go_wp2_with fail
        go_big_quiet (first | (go_at_call 270; refine Calls.quiet_of_same (less _ _ _)))
        go_wp2_with fail
        · have hL : ltInt dk[first + (2 * root + 1)]! dk[first + (2 * root + 2)]! = true := by rw [← HG.out, ← HG.out]; assumption
          revert nq; intro nq1
          have hA2 := hA.drewN nq1
          clear hcw hfw hA
          generalize wr.drewN nq1 = wr2 at hA2 ⊢
          have hcw2 := hA2.cell HG
          have hfw2 := hA2.frz
          go_big_quiet (first | (go_at_call 270; refine Calls.quiet_of_same (less _ _ _)))
          go_wp2_with fail
          · have hS : ltInt dk[first + root]! dk[first + (2 * root + 2)]! = false := by
              have : (!ltInt (G (first + root)) (G (first + 2 * root + 2))) = true := by assumption
              rw [← HG.out, ← HG.out]
              simpa [Nat.add_assoc] using this
            (try simp only [Exit.inBlock, Exit.then]); refine bodyPost_ret (results_none rfl _ _ _) rfl ?_
            refine ⟨rfl, ?_⟩
            rw [← HE.out, sd_right_stop ltInt dk h1 hL hS]
            exact hA2.drewN nq
          · have hS : ltInt dk[first + root]! dk[first + (2 * root + 2)]! = true := by
              have : (!ltInt (G (first + root)) (G (first + 2 * root + 2))) = false := by assumption
              rw [← HG.out, ← HG.out]
              simpa [Nat.add_assoc] using this
            have hA3 := hA2.drewN nq
            clear hcw2 hfw2 hA2
            generalize wr2.drewN nq = wr3 at hA3 ⊢
            have hcw3 := hA3.cell HG
            have hfw3 := hA3.frz
            go_region
            go_wp2
            go_roundg (hi - (2 * root + 2))
            case measure => omega
            case rel => exact ⟨2 * root + 2, swp dk (first + root) (first + (2 * root + 2)), by simp <;> omega, by omega, Nat.le_refl _, hA3.swp HG 1 (first + root) (first + (2 * root + 2)) (by omega) (by omega), (show Hid _ from by rw [← HE.out, sd_right_go ltInt dk h1 hL hS]; exact rfl)⟩
        · have hL : ltInt dk[first + (2 * root + 1)]! dk[first + (2 * root + 2)]! = false := by rw [← HG.out, ← HG.out]; assumption
          revert nq; intro nq1
          have hA2 := hA.drewN nq1
          clear hcw hfw hA
          generalize wr.drewN nq1 = wr2 at hA2 ⊢
          have hcw2 := hA2.cell HG
          have hfw2 := hA2.frz
          go_big_quiet (first | (go_at_call 270; refine Calls.quiet_of_same (less _ _ _)))
          go_wp2_with fail
          · have hS : ltInt dk[first + root]! dk[first + (2 * root + 1)]! = false := by
              have : (!ltInt (G (first + root)) (G (first + 2 * root + 1))) = true := by assumption
              rw [← HG.out, ← HG.out]
              simpa [Nat.add_assoc] using this
            (try simp only [Exit.inBlock, Exit.then]); refine bodyPost_ret (results_none rfl _ _ _) rfl ?_
            refine ⟨rfl, ?_⟩
            rw [← HE.out, sd_left_stop ltInt dk (by omega) (fun _ => hL) hS]
            exact hA2.drewN nq
          · have hS : ltInt dk[first + root]! dk[first + (2 * root + 1)]! = true := by
              have : (!ltInt (G (first + root)) (G (first + 2 * root + 1))) = false := by assumption
              rw [← HG.out, ← HG.out]
              simpa [Nat.add_assoc] using this
            have hA3 := hA2.drewN nq
            clear hcw2 hfw2 hA2
            generalize wr2.drewN nq = wr3 at hA3 ⊢
            have hcw3 := hA3.cell HG
            have hfw3 := hA3.frz
            go_region
            go_wp2
            go_roundg (hi - (2 * root + 1))
            case measure => omega
            case rel => exact ⟨2 * root + 1, swp dk (first + root) (first + (2 * root + 1)), by simp <;> omega, by omega, Nat.le_refl _, hA3.swp HG 1 (first + root) (first + (2 * root + 1)) (by omega) (by omega), (show Hid _ from by rw [← HE.out, sd_left_go ltInt dk (by omega) (fun _ => hL) hS]; exact rfl)⟩
      · have h1z : decide (2 * (root : Int) + 1 + 1 < (hi : Int)) = false := decide_eq_false (by omega)
        go_wp2_with fail
        go_big_quiet (first | (go_at_call 270; refine Calls.quiet_of_same (less _ _ _)))
        go_wp2_with fail
        revert nq; intro nq1
        have hA2 := hA.drewN nq1
        clear hcw hfw hA
        generalize wr.drewN nq1 = wr2 at hA2 ⊢
        have hcw2 := hA2.cell HG
        have hfw2 := hA2.frz
        go_big_quiet (first | (go_at_call 270; refine Calls.quiet_of_same (less _ _ _)))
        go_wp2_with fail
        · have hS : ltInt dk[first + root]! dk[first + (2 * root + 1)]! = false := by
            have : (!ltInt (G (first + root)) (G (first + 2 * root + 1))) = true := by assumption
            rw [← HG.out, ← HG.out]
            simpa [Nat.add_assoc] using this
          (try simp only [Exit.inBlock, Exit.then]); refine bodyPost_ret (results_none rfl _ _ _) rfl ?_
          refine ⟨rfl, ?_⟩
          rw [← HE.out, sd_left_stop ltInt dk (by omega) (fun h => absurd h h1) hS]
          exact hA2.drewN nq
        · have hS : ltInt dk[first + root]! dk[first + (2 * root + 1)]! = true := by
            have : (!ltInt (G (first + root)) (G (first + 2 * root + 1))) = false := by assumption
            rw [← HG.out, ← HG.out]
            simpa [Nat.add_assoc] using this
          have hA3 := hA2.drewN nq
          clear hcw2 hfw2 hA2
          generalize wr2.drewN nq = wr3 at hA3 ⊢
          have hcw3 := hA3.cell HG
          have hfw3 := hA3.frz
          go_region
          go_wp2
          go_roundg (hi - (2 * root + 1))
          case measure => omega
          case rel => exact ⟨2 * root + 1, swp dk (first + root) (first + (2 * root + 1)), by simp <;> omega, by omega, Nat.le_refl _, hA3.swp HG 1 (first + root) (first + (2 * root + 1)) (by omega) (by omega), (show Hid _ from by rw [← HE.out, sd_left_go ltInt dk (by omega) (fun h => absurd h h1) hS]; exact rfl)⟩

set_option maxHeartbeats 4000000 in
set_option maxRecDepth 1000000 in
theorem heapSort_ord (cap a b : Nat) (d : Array Int) (w : World) (hA : OrdAt g o t w0 N d w) (hab : a ≤ b) (hb : b ≤ N) (hN : N < 4611686018427387904) :
    Calls Tryz.prog 265 #[.slice (some ⟨g, o, none⟩) N cap, .int .i64 a, .int .i64 b] w fun e w' => e = .returned (.tuple #[]) ∧ OrdAt g o t w0 N (heapSort ltInt d a b) w' := by
  have ecast : ((b - a : Nat) : Int) = (b : Int) - (a : Int) := by omega
  go_enter Tryz.func265, Tryz.ntmps265
  go_wp2
  go_loopg [9] ((b - a - 1) / 2 + 1) (fun kx s9 wr => s9 = .int .i64 ((kx : Int) - 1) ∧ kx ≤ (b - a - 1) / 2 + 1 ∧ ∃ (dk : Array Int), OrdAt g o t w0 N dk wr ∧ Hid (heapBuild ltInt (b - a) a kx dk = heapBuild ltInt (b - a) a ((b - a - 1) / 2 + 1) d))
  case atStart => exact ⟨by rw [half_start hab], Nat.le_refl _, d, hA, rfl⟩
  case round =>
    clear hA
    obtain ⟨rfl, hkk, dk, hA, HE⟩ := hrel
    cases gk with
    | zero =>
      have hB : dk = heapBuild ltInt (b - a) a ((b - a - 1) / 2 + 1) d := HE.out
      have HB := Lib.hid hB
      clear HE hkk hB
      go_wp2
      go_loopg [10] (b - a) (fun kx s10 wr2 => s10 = .int .i64 ((kx : Int) - 1) ∧ kx ≤ b - a ∧ ∃ (dj : Array Int), OrdAt g o t w0 N dj wr2 ∧ Hid (heapPop ltInt a kx dj = heapPop ltInt a (b - a) dk))
      case atStart => exact ⟨by rw [ecast], Nat.le_refl _, dk, hA, rfl⟩
      case round =>
        clear hA
        obtain ⟨rfl, hkk, dj, hA, HE2⟩ := hrel
        cases gk with
        | zero =>
          go_wp2
          go_end0
          have e : dj = heapSort ltInt d a b := by rw [heapSort, ← HB.out, ← HE2.out]; rfl
          rw [← e]
          exact ⟨rfl, hA⟩
        | succ kx =>
          have hcall : ∀ w2, OrdAt g o t w0 N (swp dj a (a + kx)) w2 → _ := fun w2 h2 => siftDown_ord cap 0 kx a (swp dj a (a + kx)) w2 h2 (Nat.zero_le _) (by omega) hN
          have HC := Lib.hid hcall
          clear hcall
          obtain ⟨G, HG⟩ := named dj
          have hsw := hA.swp HG 1 a (a + kx) (by omega) (by omega)
          have HSW := Lib.hid hsw
          clear hsw
          have hcw := hA.cell HG
          have hfw := hA.frz
          rcases Nat.eq_zero_or_pos kx with hk0 | hkp
          · subst hk0
            go_wp2_with fail
            go_region
            go_wp2_with fail
            refine (HC.out _ HSW.out).mono ?_
            rintro e w1 ⟨rfl, hA3⟩
            go_wp2
            go_roundg 0
            case measure => omega
            case rel => exact ⟨by simp, by omega, siftDown ltInt 0 a 0 (swp dj a (a + 0)), hA3, HE2⟩
          · go_wp2_with fail
            go_region
            go_wp2_with fail
            refine (HC.out _ HSW.out).mono ?_
            rintro e w1 ⟨rfl, hA3⟩
            go_wp2
            go_roundg kx
            case measure => omega
            case rel => exact ⟨by simp, by omega, siftDown ltInt kx a 0 (swp dj a (a + kx)), hA3, HE2⟩
    | succ kx =>
      have hcall := siftDown_ord cap kx (b - a) a dk wr hA (by omega) (by omega) hN
      rw [ecast] at hcall
      go_wp2_with (go_at_call 275; refine hcall.mono ?_; rintro e w1 ⟨rfl, hA2⟩)
      go_roundg kx
      case measure => omega
      case rel => exact ⟨by simp, by omega, siftDown ltInt (b - a) a kx dk, hA2, HE⟩
end Go.Proofs.YtkdbjocchponfaaGreatDoor.Ord32
