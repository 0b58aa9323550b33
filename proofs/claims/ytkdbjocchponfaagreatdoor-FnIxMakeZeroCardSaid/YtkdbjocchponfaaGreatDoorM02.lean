/-
  car.ApplyOptions over the eight settings, where a length of zero is the end (z) or not.
  bytes.Reader: Read and ReadByte where bytes are left.
  readerToScanner: Read and ReadByte over a bytes.Reader where bytes are left.
  (No condition beyond those that each theorem states.)
-/
import Derived.Test.YtkdbjocchponfaaGreatDoorM01
import Derived.LoopTactic
import Derived.LoopN
import Derived.Deep.QuietTactic
import Derived.BigQuiet
import Derived.Deep.DeepFit
namespace Go.Proofs.YtkdbjocchponfaaGreatDoor
open Go.RowKit

/-- The settings as they stand: c the index's codec, m the greatest identifier. -/
def optCellsZ (z : Bool) (c m : Int) : Array Value := #[.int .u64 0, .int .u64 0, .int .u64 c, .bool z, .int .u64 m, .bool false, .bool false, .bool false, .int .u64 9223372036854775807, .bool false, .bool false, .int .u64 33554432, .int .u64 8388608]

set_option maxRecDepth 100000 in
theorem setZeroLengthSectionAsEOF (z : Bool) (O p : Nat) (w : World) (hO : Blk w O 71 (optCellsZ false 0 0)) (hp : Blk w p 4 #[.bool z]) :
    Calls Tryz.prog 59 #[.pointer (some ⟨O, 0, none⟩), .pointer (some ⟨p, 0, none⟩)] w fun e w' => e = .returned (.tuple #[]) ∧ Blk w' O 71 (optCellsZ z 0 0) ∧ Off [O] w w' := by
  have c0 := hp.cell 0
  have cf := hO.cell 3
  have ff := hO.frozen 3
  simp [optCellsZ] at c0 cf
  have HO := Lib.hid hO
  clear hO hp
  go_enter Tryz.func59, Tryz.ntmps59
  go_wp2_with fail
  go_end0
  exact ⟨rfl, Blk.eq (HO.out.set_ 3 (.bool z)) rfl, (Off.refl [O] w).setCell (p := ⟨O, 3, none⟩) (by simp) _⟩

set_option maxRecDepth 100000 in
theorem setStoreIdentityCIDs {z : Bool} (O p : Nat) (w : World) (hO : Blk w O 71 (optCellsZ z 0 0)) (hp : Blk w p 4 #[.bool false]) :
    Calls Tryz.prog 60 #[.pointer (some ⟨O, 0, none⟩), .pointer (some ⟨p, 0, none⟩)] w fun e w' => e = .returned (.tuple #[]) ∧ Blk w' O 71 (optCellsZ z 0 0) ∧ Off [O] w w' := by
  have c0 := hp.cell 0
  have cf := hO.cell 5
  have ff := hO.frozen 5
  simp [optCellsZ] at c0 cf
  have HO := Lib.hid hO
  clear hO hp
  go_enter Tryz.func60, Tryz.ntmps60
  go_wp2_with fail
  go_end0
  exact ⟨rfl, Blk.eq (HO.out.set_ 5 (.bool false)) rfl, (Off.refl [O] w).setCell (p := ⟨O, 5, none⟩) (by simp) _⟩

set_option maxRecDepth 100000 in
theorem setAllowDuplicatePuts {z : Bool} (O p : Nat) (w : World) (hO : Blk w O 71 (optCellsZ z 0 0)) (hp : Blk w p 4 #[.bool false]) :
    Calls Tryz.prog 61 #[.pointer (some ⟨O, 0, none⟩), .pointer (some ⟨p, 0, none⟩)] w fun e w' => e = .returned (.tuple #[]) ∧ Blk w' O 71 (optCellsZ z 0 0) ∧ Off [O] w w' := by
  have c0 := hp.cell 0
  have cf := hO.cell 6
  have ff := hO.frozen 6
  simp [optCellsZ] at c0 cf
  have HO := Lib.hid hO
  clear hO hp
  go_enter Tryz.func61, Tryz.ntmps61
  go_wp2_with fail
  go_end0
  exact ⟨rfl, Blk.eq (HO.out.set_ 6 (.bool false)) rfl, (Off.refl [O] w).setCell (p := ⟨O, 6, none⟩) (by simp) _⟩

set_option maxRecDepth 100000 in
theorem setUseWholeCIDs {z : Bool} (O p : Nat) (w : World) (hO : Blk w O 71 (optCellsZ z 0 0)) (hp : Blk w p 4 #[.bool false]) :
    Calls Tryz.prog 62 #[.pointer (some ⟨O, 0, none⟩), .pointer (some ⟨p, 0, none⟩)] w fun e w' => e = .returned (.tuple #[]) ∧ Blk w' O 71 (optCellsZ z 0 0) ∧ Off [O] w w' := by
  have c0 := hp.cell 0
  have cf := hO.cell 7
  have ff := hO.frozen 7
  simp [optCellsZ] at c0 cf
  have HO := Lib.hid hO
  clear hO hp
  go_enter Tryz.func62, Tryz.ntmps62
  go_wp2_with fail
  go_end0
  exact ⟨rfl, Blk.eq (HO.out.set_ 7 (.bool false)) rfl, (Off.refl [O] w).setCell (p := ⟨O, 7, none⟩) (by simp) _⟩

set_option maxRecDepth 100000 in
theorem setWriteAsCarV1 {z : Bool} (O p : Nat) (w : World) (hO : Blk w O 71 (optCellsZ z 0 0)) (hp : Blk w p 4 #[.bool false]) :
    Calls Tryz.prog 63 #[.pointer (some ⟨O, 0, none⟩), .pointer (some ⟨p, 0, none⟩)] w fun e w' => e = .returned (.tuple #[]) ∧ Blk w' O 71 (optCellsZ z 0 0) ∧ Off [O] w w' := by
  have c0 := hp.cell 0
  have cf := hO.cell 9
  have ff := hO.frozen 9
  simp [optCellsZ] at c0 cf
  have HO := Lib.hid hO
  clear hO hp
  go_enter Tryz.func63, Tryz.ntmps63
  go_wp2_with fail
  go_end0
  exact ⟨rfl, Blk.eq (HO.out.set_ 9 (.bool false)) rfl, (Off.refl [O] w).setCell (p := ⟨O, 9, none⟩) (by simp) _⟩

set_option maxRecDepth 100000 in
theorem setWithTrustedCAR {z : Bool} (O p : Nat) (w : World) (hO : Blk w O 71 (optCellsZ z 0 0)) (hp : Blk w p 4 #[.bool false]) :
    Calls Tryz.prog 64 #[.pointer (some ⟨O, 0, none⟩), .pointer (some ⟨p, 0, none⟩)] w fun e w' => e = .returned (.tuple #[]) ∧ Blk w' O 71 (optCellsZ z 0 0) ∧ Off [O] w w' := by
  have c0 := hp.cell 0
  have cf := hO.cell 10
  have ff := hO.frozen 10
  simp [optCellsZ] at c0 cf
  have HO := Lib.hid hO
  clear hO hp
  go_enter Tryz.func64, Tryz.ntmps64
  go_wp2_with fail
  go_end0
  exact ⟨rfl, Blk.eq (HO.out.set_ 10 (.bool false)) rfl, (Off.refl [O] w).setCell (p := ⟨O, 10, none⟩) (by simp) _⟩

set_option maxRecDepth 100000 in
theorem setUseDataPadding {z : Bool} (O p : Nat) (w : World) (hO : Blk w O 71 (optCellsZ z 0 0)) (hp : Blk w p 30 #[.int .u64 0]) :
    Calls Tryz.prog 65 #[.pointer (some ⟨O, 0, none⟩), .pointer (some ⟨p, 0, none⟩)] w fun e w' => e = .returned (.tuple #[]) ∧ Blk w' O 71 (optCellsZ z 0 0) ∧ Off [O] w w' := by
  have c0 := hp.cell 0
  have cf := hO.cell 0
  have ff := hO.frozen 0
  simp [optCellsZ] at c0 cf
  have HO := Lib.hid hO
  clear hO hp
  go_enter Tryz.func65, Tryz.ntmps65
  go_wp2_with fail
  go_end0
  exact ⟨rfl, Blk.eq (HO.out.set_ 0 (.int .u64 0)) rfl, (Off.refl [O] w).setCell (p := ⟨O, 0, none⟩) (by simp) _⟩

set_option maxRecDepth 100000 in
theorem setUseIndexPadding {z : Bool} (O p : Nat) (w : World) (hO : Blk w O 71 (optCellsZ z 0 0)) (hp : Blk w p 30 #[.int .u64 0]) :
    Calls Tryz.prog 66 #[.pointer (some ⟨O, 0, none⟩), .pointer (some ⟨p, 0, none⟩)] w fun e w' => e = .returned (.tuple #[]) ∧ Blk w' O 71 (optCellsZ z 0 0) ∧ Off [O] w w' := by
  have c0 := hp.cell 0
  have cf := hO.cell 1
  have ff := hO.frozen 1
  simp [optCellsZ] at c0 cf
  have HO := Lib.hid hO
  clear hO hp
  go_enter Tryz.func66, Tryz.ntmps66
  go_wp2_with fail
  go_end0
  exact ⟨rfl, Blk.eq (HO.out.set_ 1 (.int .u64 0)) rfl, (Off.refl [O] w).setCell (p := ⟨O, 1, none⟩) (by simp) _⟩

theorem Blk.fill13 {w : World} {g : Nat} {t : TypeId} {a0 a1 a2 a3 a4 a5 a6 a7 a8 a9 a10 a11 a12 b0 b1 b2 b3 b4 b5 b6 b7 b8 b9 b10 b11 b12 : Value} (h : Blk w g t #[a0, a1, a2, a3, a4, a5, a6, a7, a8, a9, a10, a11, a12]) : Blk (((((((((((((w.setCell ⟨g, 0, none⟩ b0).setCell ⟨g, 1, none⟩ b1).setCell ⟨g, 2, none⟩ b2).setCell ⟨g, 3, none⟩ b3).setCell ⟨g, 4, none⟩ b4).setCell ⟨g, 5, none⟩ b5).setCell ⟨g, 6, none⟩ b6).setCell ⟨g, 7, none⟩ b7).setCell ⟨g, 8, none⟩ b8).setCell ⟨g, 9, none⟩ b9).setCell ⟨g, 10, none⟩ b10).setCell ⟨g, 11, none⟩ b11).setCell ⟨g, 12, none⟩ b12) g t #[b0, b1, b2, b3, b4, b5, b6, b7, b8, b9, b10, b11, b12] := by
  have h0 := Blk.eq (h.set_ 0 b0) (cs' := #[b0, a1, a2, a3, a4, a5, a6, a7, a8, a9, a10, a11, a12]) rfl
  have h1 := Blk.eq (h0.set_ 1 b1) (cs' := #[b0, b1, a2, a3, a4, a5, a6, a7, a8, a9, a10, a11, a12]) rfl
  have h2 := Blk.eq (h1.set_ 2 b2) (cs' := #[b0, b1, b2, a3, a4, a5, a6, a7, a8, a9, a10, a11, a12]) rfl
  have h3 := Blk.eq (h2.set_ 3 b3) (cs' := #[b0, b1, b2, b3, a4, a5, a6, a7, a8, a9, a10, a11, a12]) rfl
  have h4 := Blk.eq (h3.set_ 4 b4) (cs' := #[b0, b1, b2, b3, b4, a5, a6, a7, a8, a9, a10, a11, a12]) rfl
  have h5 := Blk.eq (h4.set_ 5 b5) (cs' := #[b0, b1, b2, b3, b4, b5, a6, a7, a8, a9, a10, a11, a12]) rfl
  have h6 := Blk.eq (h5.set_ 6 b6) (cs' := #[b0, b1, b2, b3, b4, b5, b6, a7, a8, a9, a10, a11, a12]) rfl
  have h7 := Blk.eq (h6.set_ 7 b7) (cs' := #[b0, b1, b2, b3, b4, b5, b6, b7, a8, a9, a10, a11, a12]) rfl
  have h8 := Blk.eq (h7.set_ 8 b8) (cs' := #[b0, b1, b2, b3, b4, b5, b6, b7, b8, a9, a10, a11, a12]) rfl
  have h9 := Blk.eq (h8.set_ 9 b9) (cs' := #[b0, b1, b2, b3, b4, b5, b6, b7, b8, b9, a10, a11, a12]) rfl
  have h10 := Blk.eq (h9.set_ 10 b10) (cs' := #[b0, b1, b2, b3, b4, b5, b6, b7, b8, b9, b10, a11, a12]) rfl
  have h11 := Blk.eq (h10.set_ 11 b11) (cs' := #[b0, b1, b2, b3, b4, b5, b6, b7, b8, b9, b10, b11, a12]) rfl
  have h12 := Blk.eq (h11.set_ 12 b12) (cs' := #[b0, b1, b2, b3, b4, b5, b6, b7, b8, b9, b10, b11, b12]) rfl
  exact h12
theorem off_fill13 {w : World} {g : Nat} {b0 b1 b2 b3 b4 b5 b6 b7 b8 b9 b10 b11 b12 : Value} : Off [g] w (((((((((((((w.setCell ⟨g, 0, none⟩ b0).setCell ⟨g, 1, none⟩ b1).setCell ⟨g, 2, none⟩ b2).setCell ⟨g, 3, none⟩ b3).setCell ⟨g, 4, none⟩ b4).setCell ⟨g, 5, none⟩ b5).setCell ⟨g, 6, none⟩ b6).setCell ⟨g, 7, none⟩ b7).setCell ⟨g, 8, none⟩ b8).setCell ⟨g, 9, none⟩ b9).setCell ⟨g, 10, none⟩ b10).setCell ⟨g, 11, none⟩ b11).setCell ⟨g, 12, none⟩ b12) := (((((((((((((Off.refl [g] w).setCell (p := ⟨g, 0, none⟩) (by simp) b0).setCell (p := ⟨g, 1, none⟩) (by simp) b1).setCell (p := ⟨g, 2, none⟩) (by simp) b2).setCell (p := ⟨g, 3, none⟩) (by simp) b3).setCell (p := ⟨g, 4, none⟩) (by simp) b4).setCell (p := ⟨g, 5, none⟩) (by simp) b5).setCell (p := ⟨g, 6, none⟩) (by simp) b6).setCell (p := ⟨g, 7, none⟩) (by simp) b7).setCell (p := ⟨g, 8, none⟩) (by simp) b8).setCell (p := ⟨g, 9, none⟩) (by simp) b9).setCell (p := ⟨g, 10, none⟩) (by simp) b10).setCell (p := ⟨g, 11, none⟩) (by simp) b11).setCell (p := ⟨g, 12, none⟩) (by simp) b12

set_option maxRecDepth 100000 in
set_option maxHeartbeats 8000000 in
theorem applyOptions_z (z : Bool) (g p1 p2 p3 p4 p5 p6 p7 p8 : Nat) (w : World) (h : OptsZ z w g p1 p2 p3 p4 p5 p6 p7 p8) :
    Calls Tryz.prog 28 #[.slice (some ⟨g, 0, none⟩) 8 8] w fun e w' => e = .returned (.agg (optCellsZ z 1025 2048)) ∧ Off [] w w' := by
  obtain ⟨h0, h1, h2, h3, h4, h5, h6, h7, h8⟩ := h
  have P1 := Lib.hid h1
  have P2 := Lib.hid h2
  have P3 := Lib.hid h3
  have P4 := Lib.hid h4
  have P5 := Lib.hid h5
  have P6 := Lib.hid h6
  have P7 := Lib.hid h7
  have P8 := Lib.hid h8
  have G := Lib.hid h0
  have hgl := h0.lt
  have lts : p1 < w.heap.size ∧ p2 < w.heap.size ∧ p3 < w.heap.size ∧ p4 < w.heap.size ∧ p5 < w.heap.size ∧ p6 < w.heap.size ∧ p7 < w.heap.size ∧ p8 < w.heap.size := ⟨h1.lt, h2.lt, h3.lt, h4.lt, h5.lt, h6.lt, h7.lt, h8.lt⟩
  obtain ⟨l1, l2, l3, l4, l5, l6, l7, l8⟩ := lts
  have c0 := fun o1 o2 => ((h0.alloc o1).alloc o2).cell 0
  simp at c0
  clear h0 h1 h2 h3 h4 h5 h6 h7 h8
  go_enter Tryz.func28, Tryz.ntmps28
  go_wp2_with fail
  refine wp_loop_rounds 9 ?_
  rw [rounds_succ]
  go_wp2_with fail
  refine (setZeroLengthSectionAsEOF z _ p1 _ (Blk.new' (w.alloc _) _ _ (by simp)) ((P1.out.alloc _).alloc _)).mono ?_
  rintro e w1 ⟨rfl, hO, hF⟩
  have hG := hF.blk (show Blk _ _ _ _ from (((G.out).alloc _).alloc _)) (ni1 (by omega))
  have q2 := hF.blk (show Blk _ _ _ _ from (((P2.out).alloc _).alloc _)) (ni1 (by omega))
  have q3 := hF.blk (show Blk _ _ _ _ from (((P3.out).alloc _).alloc _)) (ni1 (by omega))
  have q4 := hF.blk (show Blk _ _ _ _ from (((P4.out).alloc _).alloc _)) (ni1 (by omega))
  have q5 := hF.blk (show Blk _ _ _ _ from (((P5.out).alloc _).alloc _)) (ni1 (by omega))
  have q6 := hF.blk (show Blk _ _ _ _ from (((P6.out).alloc _).alloc _)) (ni1 (by omega))
  have q7 := hF.blk (show Blk _ _ _ _ from (((P7.out).alloc _).alloc _)) (ni1 (by omega))
  have q8 := hF.blk (show Blk _ _ _ _ from (((P8.out).alloc _).alloc _)) (ni1 (by omega))
  have hF' : Off [w.heap.size + 1] w w1 := (((Off.refl [w.heap.size + 1] w).alloc _).alloc _).then hF (fun x h => by simp at h; simp [h])
  have hr := hF.blk (show Blk _ w.heap.size 71 _ from (Blk.new w _ _).alloc _) (ni1 (by omega))
  clear c0 G
  have c0 := hG.cell 1
  simp at c0
  have G := Lib.hid hG
  clear hG
  clear P2
  have P2 := Lib.hid q2
  clear q2
  clear P3
  have P3 := Lib.hid q3
  clear q3
  clear P4
  have P4 := Lib.hid q4
  clear q4
  clear P5
  have P5 := Lib.hid q5
  clear q5
  clear P6
  have P6 := Lib.hid q6
  clear q6
  clear P7
  have P7 := Lib.hid q7
  clear q7
  clear P8
  have P8 := Lib.hid q8
  clear q8
  have O1 := Lib.hid hO
  have F1 := Lib.hid hF'
  have R1 := Lib.hid hr
  clear hO hF hF' hr
  go_wp2_with fail
  rw [rounds_succ]
  go_wp2_with fail
  refine (setStoreIdentityCIDs _ p2 _ O1.out P2.out).mono ?_
  rintro e w2 ⟨rfl, hO, hF⟩
  have hG := hF.blk (show Blk _ _ _ _ from G.out) (ni1 (by omega))
  have q3 := hF.blk (show Blk _ _ _ _ from P3.out) (ni1 (by omega))
  have q4 := hF.blk (show Blk _ _ _ _ from P4.out) (ni1 (by omega))
  have q5 := hF.blk (show Blk _ _ _ _ from P5.out) (ni1 (by omega))
  have q6 := hF.blk (show Blk _ _ _ _ from P6.out) (ni1 (by omega))
  have q7 := hF.blk (show Blk _ _ _ _ from P7.out) (ni1 (by omega))
  have q8 := hF.blk (show Blk _ _ _ _ from P8.out) (ni1 (by omega))
  have hF' : Off [w.heap.size + 1] w w2 := F1.out.then hF (fun x h => by simp at h; simp [h])
  have hr := hF.blk R1.out (ni1 (by omega))
  clear c0 G
  have c0 := hG.cell 2
  simp at c0
  have G := Lib.hid hG
  clear hG
  clear P3
  have P3 := Lib.hid q3
  clear q3
  clear P4
  have P4 := Lib.hid q4
  clear q4
  clear P5
  have P5 := Lib.hid q5
  clear q5
  clear P6
  have P6 := Lib.hid q6
  clear q6
  clear P7
  have P7 := Lib.hid q7
  clear q7
  clear P8
  have P8 := Lib.hid q8
  clear q8
  have O2 := Lib.hid hO
  have F2 := Lib.hid hF'
  have R2 := Lib.hid hr
  clear hO hF hF' hr
  go_wp2_with fail
  rw [rounds_succ]
  go_wp2_with fail
  refine (setAllowDuplicatePuts _ p3 _ O2.out P3.out).mono ?_
  rintro e w3 ⟨rfl, hO, hF⟩
  have hG := hF.blk (show Blk _ _ _ _ from G.out) (ni1 (by omega))
  have q4 := hF.blk (show Blk _ _ _ _ from P4.out) (ni1 (by omega))
  have q5 := hF.blk (show Blk _ _ _ _ from P5.out) (ni1 (by omega))
  have q6 := hF.blk (show Blk _ _ _ _ from P6.out) (ni1 (by omega))
  have q7 := hF.blk (show Blk _ _ _ _ from P7.out) (ni1 (by omega))
  have q8 := hF.blk (show Blk _ _ _ _ from P8.out) (ni1 (by omega))
  have hF' : Off [w.heap.size + 1] w w3 := F2.out.then hF (fun x h => by simp at h; simp [h])
  have hr := hF.blk R2.out (ni1 (by omega))
  clear c0 G
  have c0 := hG.cell 3
  simp at c0
  have G := Lib.hid hG
  clear hG
  clear P4
  have P4 := Lib.hid q4
  clear q4
  clear P5
  have P5 := Lib.hid q5
  clear q5
  clear P6
  have P6 := Lib.hid q6
  clear q6
  clear P7
  have P7 := Lib.hid q7
  clear q7
  clear P8
  have P8 := Lib.hid q8
  clear q8
  have O3 := Lib.hid hO
  have F3 := Lib.hid hF'
  have R3 := Lib.hid hr
  clear hO hF hF' hr
  go_wp2_with fail
  rw [rounds_succ]
  go_wp2_with fail
  refine (setUseWholeCIDs _ p4 _ O3.out P4.out).mono ?_
  rintro e w4 ⟨rfl, hO, hF⟩
  have hG := hF.blk (show Blk _ _ _ _ from G.out) (ni1 (by omega))
  have q5 := hF.blk (show Blk _ _ _ _ from P5.out) (ni1 (by omega))
  have q6 := hF.blk (show Blk _ _ _ _ from P6.out) (ni1 (by omega))
  have q7 := hF.blk (show Blk _ _ _ _ from P7.out) (ni1 (by omega))
  have q8 := hF.blk (show Blk _ _ _ _ from P8.out) (ni1 (by omega))
  have hF' : Off [w.heap.size + 1] w w4 := F3.out.then hF (fun x h => by simp at h; simp [h])
  have hr := hF.blk R3.out (ni1 (by omega))
  clear c0 G
  have c0 := hG.cell 4
  simp at c0
  have G := Lib.hid hG
  clear hG
  clear P5
  have P5 := Lib.hid q5
  clear q5
  clear P6
  have P6 := Lib.hid q6
  clear q6
  clear P7
  have P7 := Lib.hid q7
  clear q7
  clear P8
  have P8 := Lib.hid q8
  clear q8
  have O4 := Lib.hid hO
  have F4 := Lib.hid hF'
  have R4 := Lib.hid hr
  clear hO hF hF' hr
  go_wp2_with fail
  rw [rounds_succ]
  go_wp2_with fail
  refine (setWriteAsCarV1 _ p5 _ O4.out P5.out).mono ?_
  rintro e w5 ⟨rfl, hO, hF⟩
  have hG := hF.blk (show Blk _ _ _ _ from G.out) (ni1 (by omega))
  have q6 := hF.blk (show Blk _ _ _ _ from P6.out) (ni1 (by omega))
  have q7 := hF.blk (show Blk _ _ _ _ from P7.out) (ni1 (by omega))
  have q8 := hF.blk (show Blk _ _ _ _ from P8.out) (ni1 (by omega))
  have hF' : Off [w.heap.size + 1] w w5 := F4.out.then hF (fun x h => by simp at h; simp [h])
  have hr := hF.blk R4.out (ni1 (by omega))
  clear c0 G
  have c0 := hG.cell 5
  simp at c0
  have G := Lib.hid hG
  clear hG
  clear P6
  have P6 := Lib.hid q6
  clear q6
  clear P7
  have P7 := Lib.hid q7
  clear q7
  clear P8
  have P8 := Lib.hid q8
  clear q8
  have O5 := Lib.hid hO
  have F5 := Lib.hid hF'
  have R5 := Lib.hid hr
  clear hO hF hF' hr
  go_wp2_with fail
  rw [rounds_succ]
  go_wp2_with fail
  refine (setWithTrustedCAR _ p6 _ O5.out P6.out).mono ?_
  rintro e w6 ⟨rfl, hO, hF⟩
  have hG := hF.blk (show Blk _ _ _ _ from G.out) (ni1 (by omega))
  have q7 := hF.blk (show Blk _ _ _ _ from P7.out) (ni1 (by omega))
  have q8 := hF.blk (show Blk _ _ _ _ from P8.out) (ni1 (by omega))
  have hF' : Off [w.heap.size + 1] w w6 := F5.out.then hF (fun x h => by simp at h; simp [h])
  have hr := hF.blk R5.out (ni1 (by omega))
  clear c0 G
  have c0 := hG.cell 6
  simp at c0
  have G := Lib.hid hG
  clear hG
  clear P7
  have P7 := Lib.hid q7
  clear q7
  clear P8
  have P8 := Lib.hid q8
  clear q8
  have O6 := Lib.hid hO
  have F6 := Lib.hid hF'
  have R6 := Lib.hid hr
  clear hO hF hF' hr
  go_wp2_with fail
  rw [rounds_succ]
  go_wp2_with fail
  refine (setUseDataPadding _ p7 _ O6.out P7.out).mono ?_
  rintro e w7 ⟨rfl, hO, hF⟩
  have hG := hF.blk (show Blk _ _ _ _ from G.out) (ni1 (by omega))
  have q8 := hF.blk (show Blk _ _ _ _ from P8.out) (ni1 (by omega))
  have hF' : Off [w.heap.size + 1] w w7 := F6.out.then hF (fun x h => by simp at h; simp [h])
  have hr := hF.blk R6.out (ni1 (by omega))
  clear c0 G
  have c0 := hG.cell 7
  simp at c0
  have G := Lib.hid hG
  clear hG
  clear P8
  have P8 := Lib.hid q8
  clear q8
  have O7 := Lib.hid hO
  have F7 := Lib.hid hF'
  have R7 := Lib.hid hr
  clear hO hF hF' hr
  go_wp2_with fail
  rw [rounds_succ]
  go_wp2_with fail
  refine (setUseIndexPadding _ p8 _ O7.out P8.out).mono ?_
  rintro e w8 ⟨rfl, hO, hF⟩
  have hF' : Off [w.heap.size + 1] w w8 := F7.out.then hF (fun x h => by simp at h; simp [h])
  have hr := hF.blk R7.out (ni1 (by omega))
  have O8 := Lib.hid hO
  have F8 := Lib.hid hF'
  have R8 := Lib.hid hr
  clear hO hF hF' hr
  go_wp2_with fail
  clear c0
  have o0 := O8.out.cell 0
  have r0 := R8.out.cell 0
  have rf0 := R8.out.frozen 0
  have o1 := O8.out.cell 1
  have r1 := R8.out.cell 1
  have rf1 := R8.out.frozen 1
  have o2 := O8.out.cell 2
  have r2 := R8.out.cell 2
  have rf2 := R8.out.frozen 2
  have o3 := O8.out.cell 3
  have r3 := R8.out.cell 3
  have rf3 := R8.out.frozen 3
  have o4 := O8.out.cell 4
  have r4 := R8.out.cell 4
  have rf4 := R8.out.frozen 4
  have o5 := O8.out.cell 5
  have r5 := R8.out.cell 5
  have rf5 := R8.out.frozen 5
  have o6 := O8.out.cell 6
  have r6 := R8.out.cell 6
  have rf6 := R8.out.frozen 6
  have o7 := O8.out.cell 7
  have r7 := R8.out.cell 7
  have rf7 := R8.out.frozen 7
  have o8 := O8.out.cell 8
  have r8 := R8.out.cell 8
  have rf8 := R8.out.frozen 8
  have o9 := O8.out.cell 9
  have r9 := R8.out.cell 9
  have rf9 := R8.out.frozen 9
  have o10 := O8.out.cell 10
  have r10 := R8.out.cell 10
  have rf10 := R8.out.frozen 10
  have o11 := O8.out.cell 11
  have r11 := R8.out.cell 11
  have rf11 := R8.out.frozen 11
  have o12 := O8.out.cell 12
  have r12 := R8.out.cell 12
  have rf12 := R8.out.frozen 12
  have of2 := O8.out.frozen 2
  have of4 := O8.out.frozen 4
  simp [optCellsZ] at o0 o1 o2 o3 o4 o5 o6 o7 o8 o9 o10 o11 o12 r0 r1 r2 r3 r4 r5 r6 r7 r8 r9 r10 r11 r12
  rw [rounds_succ]
  go_wp2_with fail
  have hr := (R8.out.far (p := ⟨w.heap.size + 1, 2, none⟩) (by simp) (.int .u64 1025)).far (p := ⟨w.heap.size + 1, 4, none⟩) (by simp) (.int .u64 2048)
  refine bodyPost_ret (results_row rfl _ (Blk.fill13 hr) rfl Tryz.underlying71 rfl (by kernel_rfl)) rfl ⟨rfl, ?_⟩
  refine Off.then ((F8.out.setCell (p := ⟨w.heap.size + 1, 2, none⟩) (by simp) _).setCell (p := ⟨w.heap.size + 1, 4, none⟩) (by simp) _) off_fill13 (fun x h => by simp at h; omega) |>.mono (S' := []) (fun x h => by simp at h; omega)
end Go.Proofs.YtkdbjocchponfaaGreatDoor
namespace Go.Proofs.YtkdbjocchponfaaGreatDoor
open Go.RowKit

/-- Block R is a bytes.Reader over the n bytes from block b's beginning, at place i. -/
def RdC (w : World) (R b n cap i : Nat) (p : Int) : Prop := Blk w R 76 #[.slice (some ⟨b, 0, none⟩) n cap, .int .i64 i, .int .i64 p]

set_option maxRecDepth 100000 in
set_option maxHeartbeats 1000000 in
theorem brReadByte (R b n cap i : Nat) (p : Int) (l : List UInt8) (w : World) (hn : n = l.length) (hR : RdC w R b n cap i p) (hs : Seg w b 0 l) (hRb : R ≠ b) (hi : i < n) (hL : n ≤ 2147483700) (c : Int) (hc : ((l[i]'(hn ▸ hi)).toNat : Int) = c) :
    Calls Tryz.prog 202 #[.pointer (some ⟨R, 0, none⟩)] w fun e w' => e = .returned (.tuple #[.int .u8 c, .nilIface]) ∧ RdC w' R b n cap (i + 1) (-1) ∧ Off [R] w w' := by
  have c0 := hR.cell 0
  have c1 := hR.cell 1
  have c2 := hR.cell 2
  have f0 := hR.frozen 0
  have f1 := hR.frozen 1
  have f2 := hR.frozen 2
  have d0 := hs i (hn ▸ hi)
  rw [hc, Nat.zero_add] at d0
  have d1 : ∀ u, (w.setCell ⟨R, 2, none⟩ u).cell? ⟨b, i, none⟩ = some (.int .u8 c) := fun u => by rw [World.cell?_setCell_other w _ _ u (fun h => by injection h with h1 _ _; exact hRb h1)]; exact d0
  simp at c0 c1 c2
  have HD := Lib.hid d1
  have HR := Lib.hid hR
  have hle : ((n : Int) ≤ (i : Int)) = False := by simp; omega
  have hw1 : IntKind.i64.wrap ((i : Int) + 1) = (i : Int) + 1 := by rw [IntKind.wrap_i64]; omega
  have hi2 : i + 1 = i + 1 := rfl
  clear hs hc d0 d1 hR hn
  go_enter Tryz.func202, Tryz.ntmps202
  go_wp2_with fail
  have e1 := HD.out (.int .i64 (-1))
  go_quiet (fail)
  go_wp2_with fail
  go_quiet (fail)
  go_wp2_with fail
  go_ret2
  exact ⟨rfl, ((HR.out.set_ 2 _).drewN _).set_ 1 _, (((Off.refl [R] w).setCell (p := ⟨R, 2, none⟩) (by simp) _).drewN _).setCell (p := ⟨R, 1, none⟩) (by simp) _⟩

set_option maxRecDepth 100000 in
set_option maxHeartbeats 1000000 in
theorem brRead (R g o m dc b n cap i k : Nat) (p : Int) (l : List UInt8) (cur : List Value) (t : TypeId) (w : World) (hn : n = l.length) (hR : RdC w R b n cap i p) (hs : Seg w b 0 l) (hg : Blk w g t cur.toArray) (hRb : R ≠ b) (hRg : R ≠ g) (hi : i < n) (hk : k = Nat.min (n - i) m) (hk0 : 0 < k) (hfit : o + k ≤ cur.length) (hL : n ≤ 2147483700) (hcap : n ≤ cap) :
    Calls Tryz.prog 201 #[.pointer (some ⟨R, 0, none⟩), .slice (some ⟨g, o, none⟩) m dc] w fun e w' => e = .returned (.tuple #[.int .i64 k, .nilIface]) ∧ RdC w' R b n cap (i + k) (-1) ∧ Blk w' g t (splice cur o (Lib.byteCells ((l.drop i).take k))).toArray ∧ Off [R, g] w w' := by
  have c0 := hR.cell 0
  have c1 := hR.cell 1
  have c2 := hR.cell 2
  have f0 := hR.frozen 0
  have f1 := hR.frozen 1
  have f2 := hR.frozen 2
  simp at c0 c1 c2
  have hkl : ((l.drop i).take k).length = k := by
    have : k ≤ n - i := by rw [hk]; exact Nat.min_le_left _ _
    simp
    omega
  have hG : Blk (w.setCell ⟨R, 2, none⟩ (.int .i64 (-1))) g t cur.toArray := hg.far (p := ⟨R, 2, none⟩) (fun e => hRg e.symm) _
  have hSG : ∀ j v, (Lib.byteCells ((l.drop i).take k))[j]? = some v → (w.setCell ⟨R, 2, none⟩ (.int .i64 (-1))).cell? ((⟨b, i, none⟩ : Addr).add j) = some v := by
    have h2 := ((hs.drop i (by omega)).take k).setCell (p := ⟨R, 2, none⟩) hRb (.int .i64 (-1))
    rw [Nat.zero_add] at h2
    exact h2.cells
  have hD := hR.set_ 2 (.int .i64 (-1))
  have hO := (Off.refl [R] w).setCell (p := ⟨R, 2, none⟩) (by simp) (.int .i64 (-1))
  have HG := Lib.hid hG
  have HS := Lib.hid hSG
  have HDD := Lib.hid hD
  have HO := Lib.hid hO
  have HK := Lib.hid hk
  have hle : ((n : Int) ≤ (i : Int)) = False := by simp; omega
  have hin : i ≤ n := by omega
  have hci : ¬ (cap = i) := by omega
  have hkn : k ≤ n - i := by rw [HK.out]; exact Nat.min_le_left _ _
  have hw1 : IntKind.i64.wrap ((i : Int) + (k : Int)) = (i : Int) + (k : Int) := by rw [IntKind.wrap_i64]; omega
  have HKL := Lib.hid hkl
  have HF := Lib.hid hfit
  clear hs hR hn hg hG hSG hD hO hk hkl hfit
  go_enter Tryz.func201, Tryz.ntmps201
  go_wp2_with fail
  go_quiet (fail)
  go_wp2_with fail
  go_region_law (refine step_copyO rfl (.tmp 20) (.tmp 29) 32 32 rfl 5 Tryz.underlying32 Tryz.sizeByte g o cur t HG.out (Lib.byteCells ((l.drop i).take k)) (by rw [Lib.byteCells_length, HKL.out]; exact HF.out) (byteCells_one _) m dc (n - i) (cap - i) ⟨b, i, none⟩ (by simp [Act.eval, Act.put]) (by simp [Act.eval, Act.put]) (by rw [Lib.byteCells_length, HKL.out]; exact HK.out) HS.out k (by rw [Lib.byteCells_length, HKL.out]) ?_; intro w4 HW4 HO4)
  all_goals
    have hO5 : Off [R, g] w w4 := (HO.out.mono (S' := [R, g]) (fun x h => by simp at h; simp [h])).next HO4.out ⟨rfl, rfl, rfl, rfl⟩ (fun x h => by simp at h; simp [h])
    have hR4 := HO4.out.blk HDD.out (by simp; exact hRg)
    have r1 := hR4.cell 1
    have rf1 := hR4.frozen 1
    simp at r1
    have HO5 := Lib.hid hO5
    have HR4 := Lib.hid hR4
    clear hO5 hR4
    go_wp2_with fail
    go_ret2
    exact ⟨rfl, HR4.out.set_ 1 _, HW4.out.far (p := ⟨R, 1, none⟩) (fun e => hRg e.symm) _, HO5.out.setCell (p := ⟨R, 1, none⟩) (by simp) _⟩
end Go.Proofs.YtkdbjocchponfaaGreatDoor
namespace Go.Proofs.YtkdbjocchponfaaGreatDoor
open Go.RowKit

/-- Block T is a readerToScanner over the bytes.Reader R. -/
def TsC (w : World) (T R : Nat) (x y z : Int) : Prop := Blk w T 271 #[.iface 58 (.pointer (some ⟨R, 0, none⟩)), .int .u8 x, .int .u8 y, .int .u8 z]

/-- io.EOF is an error. -/
def Eof (w : World) : Prop := ∃ q, w.cell? ⟨0, 0, none⟩ = some (.iface 153 q)
theorem Eof.off {S : List Nat} {a b : World} (h : Eof a) (k : Off S a b) (hS : 0 ∉ S) : Eof b := by
  obtain ⟨q, hq⟩ := h
  exact ⟨q, (World.cell?_of_block (k.block _ (World.block_lt_of_cell? _ _ hq) hS)).trans hq⟩

theorem nil_eof (q : Value) (w : World) : (binOp .eql 55 .nilIface (.iface 153 q)).run Tryz.prog w = .ok (.bool false) w := by kernel_rfl
theorem nil_read (a : Addr) (w : World) : (nilAhead 513 58 (.pointer (some a)) "Read").run Tryz.prog w = .ok (some false) w := by kernel_rfl
theorem method_read (a : Addr) (w : World) : (method 513 58 (.pointer (some a)) "Read").run Tryz.prog w = .ok (201, .pointer (some a)) w := by kernel_rfl
theorem method_readByte (a : Addr) (w : World) : (method 513 58 (.pointer (some a)) "ReadByte").run Tryz.prog w = .ok (202, .pointer (some a)) w := by kernel_rfl

set_option maxRecDepth 100000 in
set_option maxHeartbeats 1000000 in
theorem tReadSelf (T R b n cap i : Nat) (p x y z : Int) (l : List UInt8) (w : World) (hn : n = l.length) (hT : TsC w T R x y z) (hy : (y == 1) = false) (hR : RdC w R b n cap i p) (hs : Seg w b 0 l) (hRb : R ≠ b) (hRT : R ≠ T) (hi : i < n) (hL : n ≤ 2147483700) (hcap : n ≤ cap) (c : Int) (hc : ((l[i]'(hn ▸ hi)).toNat : Int) = c)
    (hE : Eof w) (hET : 0 ≠ T) (hER : 0 ≠ R) :
    Calls Tryz.prog 320 #[.pointer (some ⟨T, 0, none⟩), .slice (some ⟨T, 3, none⟩) 1 1] w fun e w' => e = .returned (.tuple #[.int .i64 1, .nilIface]) ∧ TsC w' T R c 2 c ∧ RdC w' R b n cap (i + 1) (-1) ∧ Off [T, R] w w' := by
  have c0 := hT.cell 0
  have c1 := hT.cell 1
  have c2 := hT.cell 2
  have c3 := hT.cell 3
  simp at c0 c1 c2 c3
  have hk : (1 : Nat) = Nat.min (n - i) 1 := by show 1 = min (n - i) 1; omega
  have e1 : Lib.byteCells ((l.drop i).take 1) = [.int .u8 c] := by
    have : (l.drop i).take 1 = [l[i]'(hn ▸ hi)] := by rw [List.drop_eq_getElem_cons (hn ▸ hi)]; rfl
    rw [this, ← hc]; rfl
  have HC := Lib.hid (brRead R T 3 1 1 b n cap i 1 p l [.iface 58 (.pointer (some ⟨R, 0, none⟩)), .int .u8 x, .int .u8 y, .int .u8 z] 271 w hn hR hs hT hRb hRT hi hk (by omega) (by simp) hL hcap)
  rw [e1] at HC
  have hm1 := method_read
  have hm2 := nil_read
  have hq := nil_eof
  have HE := Lib.hid hE
  clear hT hR hs hn hk e1 hc hE
  go_enter Tryz.func320, Tryz.ntmps320
  go_wp2_with fail
  refine HC.out.mono ?_
  rintro e w1 ⟨rfl, hR1, hT1, hO1⟩
  have hE1 := HE.out.off hO1 (by simp; exact ⟨hER, hET⟩)
  obtain ⟨q, hq1⟩ := hE1
  have c0 := hT1.cell 0
  have c1 := hT1.cell 1
  have c2 := hT1.cell 2
  have c3 := hT1.cell 3
  have f1 := hT1.frozen 1
  have f2 := hT1.frozen 2
  simp [splice] at c0 c1 c2 c3
  have HR1 := Lib.hid hR1
  have HT1 := Lib.hid hT1
  have HO1 := Lib.hid hO1
  clear hR1 hT1 hO1
  go_wp2_with fail
  go_ret2
  exact ⟨rfl, (HT1.out.set_ 1 _).set_ 2 _, (HR1.out.far (p := ⟨T, 1, none⟩) hRT _).far (p := ⟨T, 2, none⟩) hRT _, ((HO1.out.mono (S' := [T, R]) (fun x h => by simp at h; rcases h with h | h <;> simp [h])).setCell (p := ⟨T, 1, none⟩) (by simp) _).setCell (p := ⟨T, 2, none⟩) (by simp) _⟩

set_option maxRecDepth 100000 in
set_option maxHeartbeats 1000000 in
theorem tRead (T R g o m dc b n cap i k : Nat) (p x y z : Int) (l : List UInt8) (cur : List Value) (t : TypeId) (w : World) (hn : n = l.length) (hT : TsC w T R x y z) (hy : (y == 1) = false) (hR : RdC w R b n cap i p) (hs : Seg w b 0 l) (hg : Blk w g t cur.toArray) (hRb : R ≠ b) (hRT : R ≠ T) (hRg : R ≠ g) (hTg : T ≠ g) (hi : i < n) (hk : k = Nat.min (n - i) m) (hk0 : 0 < k) (hfit : o + k ≤ cur.length) (hL : n ≤ 2147483700) (hcap : n ≤ cap)
    (hE : Eof w) (_hET : 0 ≠ T) (hER : 0 ≠ R) (hEg : 0 ≠ g) :
    Calls Tryz.prog 320 #[.pointer (some ⟨T, 0, none⟩), .slice (some ⟨g, o, none⟩) m dc] w fun e w' => e = .returned (.tuple #[.int .i64 k, .nilIface]) ∧ (∃ x', TsC w' T R x' 2 z) ∧ RdC w' R b n cap (i + k) (-1) ∧ Blk w' g t (splice cur o (Lib.byteCells ((l.drop i).take k))).toArray ∧ Off [T, R, g] w w' := by
  have c0 := hT.cell 0
  have c1 := hT.cell 1
  have c2 := hT.cell 2
  have c3 := hT.cell 3
  simp at c0 c1 c2 c3
  have hkm : k ≤ m := by rw [hk]; exact Nat.min_le_right _ _
  have hkn : k ≤ n - i := by rw [hk]; exact Nat.min_le_left _ _
  have hkl : ((l.drop i).take k).length = k := by simp; omega
  have HC := Lib.hid (brRead R g o m dc b n cap i k p l cur t w hn hR hs hg hRb hRg hi hk hk0 hfit hL hcap)
  have hm1 := method_read
  have hm2 := nil_read
  have hq := nil_eof
  have HE := Lib.hid hE
  have HKL := Lib.hid hkl
  have HF := Lib.hid hfit
  have HT := Lib.hid hT
  have hw1 : IntKind.i64.wrap ((k : Int) - 1) = ((k - 1 : Nat) : Int) := by rw [IntKind.wrap_i64]; omega
  have hb1 : k - 1 < m := by omega
  clear hT hR hs hg hn hk hE hkl hfit
  go_enter Tryz.func320, Tryz.ntmps320
  go_wp2_with fail
  refine HC.out.mono ?_
  rintro e w1 ⟨rfl, hR1, hg1, hO1⟩
  have hE1 := HE.out.off hO1 (by simp; exact ⟨hER, hEg⟩)
  obtain ⟨q, hq1⟩ := hE1
  have hT1 := hO1.blk HT.out (by simp; exact ⟨fun e => hRT e.symm, hTg⟩)
  have k1 := hT1.cell 1
  have k2 := hT1.cell 2
  simp at k1 k2
  have f1 := hT1.frozen 1
  have f2 := hT1.frozen 2
  obtain ⟨v, hv⟩ : ∃ v : Int, w1.cell? ⟨g, o + (k - 1), none⟩ = some (.int .u8 v) := by
    refine ⟨(((l.drop i).take k)[k - 1]'(by rw [HKL.out]; omega)).toNat, ?_⟩
    rw [hg1.cell]
    have e1 : (cur.take o).length = o := by rw [List.length_take]; have := HF.out; omega
    simp only [splice, List.getElem?_toArray]
    rw [List.getElem?_append_right (by rw [e1]; omega), e1, List.getElem?_append_left (by rw [Lib.byteCells_length, HKL.out]; omega)]
    rw [show o + (k - 1) - o = k - 1 from by omega]
    have e2 : k - 1 < ((l.drop i).take k).length := by rw [HKL.out]; omega
    simp only [Lib.byteCells, List.getElem?_map, List.getElem?_eq_getElem e2]
    rfl
  have HR1 := Lib.hid hR1
  have HT1 := Lib.hid hT1
  have Hg1 := Lib.hid hg1
  have HO1 := Lib.hid hO1
  clear hR1 hT1 hg1 hO1 HC
  go_wp2_with fail
  go_ret2
  exact ⟨rfl, ⟨_, (HT1.out.set_ 1 _).set_ 2 _⟩, (HR1.out.far (p := ⟨T, 1, none⟩) hRT _).far (p := ⟨T, 2, none⟩) hRT _, (Hg1.out.far (p := ⟨T, 1, none⟩) (fun e => hTg e.symm) _).far (p := ⟨T, 2, none⟩) (fun e => hTg e.symm) _, ((HO1.out.mono (S' := [T, R, g]) (fun x h => by simp at h; rcases h with h | h <;> simp [h])).setCell (p := ⟨T, 1, none⟩) (by simp) _).setCell (p := ⟨T, 2, none⟩) (by simp) _⟩

set_option maxRecDepth 100000 in
set_option maxHeartbeats 1000000 in
theorem tReadByte (T R b n cap i : Nat) (p x y z : Int) (l : List UInt8) (w : World) (hn : n = l.length) (hT : TsC w T R x y z) (hy : (y == 1) = false) (hR : RdC w R b n cap i p) (hs : Seg w b 0 l) (hRb : R ≠ b) (hRT : R ≠ T) (hi : i < n) (hL : n ≤ 2147483700) (hcap : n ≤ cap) (c : Int) (hc : ((l[i]'(hn ▸ hi)).toNat : Int) = c)
    (hE : Eof w) (hET : 0 ≠ T) (hER : 0 ≠ R) :
    Calls Tryz.prog 321 #[.pointer (some ⟨T, 0, none⟩)] w fun e w' => e = .returned (.tuple #[.int .u8 c, .nilIface]) ∧ TsC w' T R c 2 c ∧ RdC w' R b n cap (i + 1) (-1) ∧ Off [T, R] w w' := by
  have HC := Lib.hid (tReadSelf T R b n cap i p x y z l w hn hT hy hR hs hRb hRT hi hL hcap c hc hE hET hER)
  have hq := nil_eof
  have HE := Lib.hid hE
  clear hT hR hs hn hE hc
  go_enter Tryz.func321, Tryz.ntmps321
  go_wp2_with fail
  refine HC.out.mono ?_
  rintro e w1 ⟨rfl, hT1, hR1, hO1⟩
  have hE1 := HE.out.off hO1 (by simp; exact ⟨hET, hER⟩)
  obtain ⟨q, hq1⟩ := hE1
  have c3 := hT1.cell 3
  simp at c3
  have HR1 := Lib.hid hR1
  have HT1 := Lib.hid hT1
  have HO1 := Lib.hid hO1
  clear hR1 hT1 hO1
  go_wp2_with fail
  go_ret2
  exact ⟨rfl, HT1.out, HR1.out, HO1.out⟩
end Go.Proofs.YtkdbjocchponfaaGreatDoor
