/- car.ApplyOptions over the eight settings of no options. -/
import Derived.Test.YtioabgenlaikaaaGreatDoorOpt
import Derived.LoopTactic
import Derived.LoopN
namespace Go.Proofs.YtioabgenlaikaaaGreatDoor
open Go.RowKit

/-- The settings as they stand: c the index's codec, m the greatest identifier. -/
def optCells (c m : Int) : Array Value := #[.int .u64 0, .int .u64 0, .int .u64 c, .bool false, .int .u64 m, .bool false, .bool false, .bool false, .int .u64 9223372036854775807, .bool false, .bool false, .int .u64 33554432, .int .u64 8388608]

set_option maxRecDepth 100000 in
theorem setZeroLengthSectionAsEOF (O p : Nat) (w : World) (hO : Blk w O 43 (optCells 0 0)) (hp : Blk w p 4 #[.bool false]) :
    Calls Tryz.prog 27 #[.pointer (some ⟨O, 0, none⟩), .pointer (some ⟨p, 0, none⟩)] w fun e w' => e = .returned (.tuple #[]) ∧ Blk w' O 43 (optCells 0 0) ∧ Off [O] w w' := by
  have c0 := hp.cell 0
  have cf := hO.cell 3
  have ff := hO.frozen 3
  simp [optCells] at c0 cf
  have HO := Lib.hid hO
  clear hO hp
  go_enter Tryz.func27, Tryz.ntmps27
  go_wp2_with fail
  go_end0
  exact ⟨rfl, Blk.eq (HO.out.set_ 3 (.bool false)) rfl, (Off.refl [O] w).setCell (p := ⟨O, 3, none⟩) (by simp) _⟩

set_option maxRecDepth 100000 in
theorem setStoreIdentityCIDs (O p : Nat) (w : World) (hO : Blk w O 43 (optCells 0 0)) (hp : Blk w p 4 #[.bool false]) :
    Calls Tryz.prog 28 #[.pointer (some ⟨O, 0, none⟩), .pointer (some ⟨p, 0, none⟩)] w fun e w' => e = .returned (.tuple #[]) ∧ Blk w' O 43 (optCells 0 0) ∧ Off [O] w w' := by
  have c0 := hp.cell 0
  have cf := hO.cell 5
  have ff := hO.frozen 5
  simp [optCells] at c0 cf
  have HO := Lib.hid hO
  clear hO hp
  go_enter Tryz.func28, Tryz.ntmps28
  go_wp2_with fail
  go_end0
  exact ⟨rfl, Blk.eq (HO.out.set_ 5 (.bool false)) rfl, (Off.refl [O] w).setCell (p := ⟨O, 5, none⟩) (by simp) _⟩

set_option maxRecDepth 100000 in
theorem setAllowDuplicatePuts (O p : Nat) (w : World) (hO : Blk w O 43 (optCells 0 0)) (hp : Blk w p 4 #[.bool false]) :
    Calls Tryz.prog 29 #[.pointer (some ⟨O, 0, none⟩), .pointer (some ⟨p, 0, none⟩)] w fun e w' => e = .returned (.tuple #[]) ∧ Blk w' O 43 (optCells 0 0) ∧ Off [O] w w' := by
  have c0 := hp.cell 0
  have cf := hO.cell 6
  have ff := hO.frozen 6
  simp [optCells] at c0 cf
  have HO := Lib.hid hO
  clear hO hp
  go_enter Tryz.func29, Tryz.ntmps29
  go_wp2_with fail
  go_end0
  exact ⟨rfl, Blk.eq (HO.out.set_ 6 (.bool false)) rfl, (Off.refl [O] w).setCell (p := ⟨O, 6, none⟩) (by simp) _⟩

set_option maxRecDepth 100000 in
theorem setUseWholeCIDs (O p : Nat) (w : World) (hO : Blk w O 43 (optCells 0 0)) (hp : Blk w p 4 #[.bool false]) :
    Calls Tryz.prog 30 #[.pointer (some ⟨O, 0, none⟩), .pointer (some ⟨p, 0, none⟩)] w fun e w' => e = .returned (.tuple #[]) ∧ Blk w' O 43 (optCells 0 0) ∧ Off [O] w w' := by
  have c0 := hp.cell 0
  have cf := hO.cell 7
  have ff := hO.frozen 7
  simp [optCells] at c0 cf
  have HO := Lib.hid hO
  clear hO hp
  go_enter Tryz.func30, Tryz.ntmps30
  go_wp2_with fail
  go_end0
  exact ⟨rfl, Blk.eq (HO.out.set_ 7 (.bool false)) rfl, (Off.refl [O] w).setCell (p := ⟨O, 7, none⟩) (by simp) _⟩

set_option maxRecDepth 100000 in
theorem setWriteAsCarV1 (O p : Nat) (w : World) (hO : Blk w O 43 (optCells 0 0)) (hp : Blk w p 4 #[.bool false]) :
    Calls Tryz.prog 31 #[.pointer (some ⟨O, 0, none⟩), .pointer (some ⟨p, 0, none⟩)] w fun e w' => e = .returned (.tuple #[]) ∧ Blk w' O 43 (optCells 0 0) ∧ Off [O] w w' := by
  have c0 := hp.cell 0
  have cf := hO.cell 9
  have ff := hO.frozen 9
  simp [optCells] at c0 cf
  have HO := Lib.hid hO
  clear hO hp
  go_enter Tryz.func31, Tryz.ntmps31
  go_wp2_with fail
  go_end0
  exact ⟨rfl, Blk.eq (HO.out.set_ 9 (.bool false)) rfl, (Off.refl [O] w).setCell (p := ⟨O, 9, none⟩) (by simp) _⟩

set_option maxRecDepth 100000 in
theorem setWithTrustedCAR (O p : Nat) (w : World) (hO : Blk w O 43 (optCells 0 0)) (hp : Blk w p 4 #[.bool false]) :
    Calls Tryz.prog 32 #[.pointer (some ⟨O, 0, none⟩), .pointer (some ⟨p, 0, none⟩)] w fun e w' => e = .returned (.tuple #[]) ∧ Blk w' O 43 (optCells 0 0) ∧ Off [O] w w' := by
  have c0 := hp.cell 0
  have cf := hO.cell 10
  have ff := hO.frozen 10
  simp [optCells] at c0 cf
  have HO := Lib.hid hO
  clear hO hp
  go_enter Tryz.func32, Tryz.ntmps32
  go_wp2_with fail
  go_end0
  exact ⟨rfl, Blk.eq (HO.out.set_ 10 (.bool false)) rfl, (Off.refl [O] w).setCell (p := ⟨O, 10, none⟩) (by simp) _⟩

set_option maxRecDepth 100000 in
theorem setUseDataPadding (O p : Nat) (w : World) (hO : Blk w O 43 (optCells 0 0)) (hp : Blk w p 22 #[.int .u64 0]) :
    Calls Tryz.prog 33 #[.pointer (some ⟨O, 0, none⟩), .pointer (some ⟨p, 0, none⟩)] w fun e w' => e = .returned (.tuple #[]) ∧ Blk w' O 43 (optCells 0 0) ∧ Off [O] w w' := by
  have c0 := hp.cell 0
  have cf := hO.cell 0
  have ff := hO.frozen 0
  simp [optCells] at c0 cf
  have HO := Lib.hid hO
  clear hO hp
  go_enter Tryz.func33, Tryz.ntmps33
  go_wp2_with fail
  go_end0
  exact ⟨rfl, Blk.eq (HO.out.set_ 0 (.int .u64 0)) rfl, (Off.refl [O] w).setCell (p := ⟨O, 0, none⟩) (by simp) _⟩

set_option maxRecDepth 100000 in
theorem setUseIndexPadding (O p : Nat) (w : World) (hO : Blk w O 43 (optCells 0 0)) (hp : Blk w p 22 #[.int .u64 0]) :
    Calls Tryz.prog 34 #[.pointer (some ⟨O, 0, none⟩), .pointer (some ⟨p, 0, none⟩)] w fun e w' => e = .returned (.tuple #[]) ∧ Blk w' O 43 (optCells 0 0) ∧ Off [O] w w' := by
  have c0 := hp.cell 0
  have cf := hO.cell 1
  have ff := hO.frozen 1
  simp [optCells] at c0 cf
  have HO := Lib.hid hO
  clear hO hp
  go_enter Tryz.func34, Tryz.ntmps34
  go_wp2_with fail
  go_end0
  exact ⟨rfl, Blk.eq (HO.out.set_ 1 (.int .u64 0)) rfl, (Off.refl [O] w).setCell (p := ⟨O, 1, none⟩) (by simp) _⟩

theorem Blk.fill13 {w : World} {g : Nat} {t : TypeId} {a0 a1 a2 a3 a4 a5 a6 a7 a8 a9 a10 a11 a12 b0 b1 b2 b3 b4 b5 b6 b7 b8 b9 b10 b11 b12 : Value} (h : Blk w g t #[a0, a1, a2, a3, a4, a5, a6, a7, a8, a9, a10, a11, a12]) : Blk (((((((((((((w.setCell ⟨g, 0, none⟩ b0).setCell ⟨g, 1, none⟩ b1).setCell ⟨g, 2, none⟩ b2).setCell ⟨g, 3, none⟩ b3).setCell ⟨g, 4, none⟩ b4).setCell ⟨g, 5, none⟩ b5).setCell ⟨g, 6, none⟩ b6).setCell ⟨g, 7, none⟩ b7).setCell ⟨g, 8, none⟩ b8).setCell ⟨g, 9, none⟩ b9).setCell ⟨g, 10, none⟩ b10).setCell ⟨g, 11, none⟩ b11).setCell ⟨g, 12, none⟩ b12) g t #[b0, b1, b2, b3, b4, b5, b6, b7, b8, b9, b10, b11, b12] := by
  have h0 := Blk.eq (h.set_ 0 b0) (cs' := #[b0, a1, a2, a3, a4, a5, a6, a7, a8, a9, a10, a11, a12]) rfl
  have h1 := Blk.eq (h0.set_ 1 b1) (cs' := #[b0, b1, a2, a3, a4, a5, a6, a7, a8, a9, a10, a11, a12]) rfl
  have h2 := Blk.eq (h1.set_ 2 b2) (cs' := #[b0, b1, b2, a3, a4, a5, a6, a7, a8, a9, a10, a11, a12]) rfl
  have h3 := Blk.eq (h2.set_ 3 b3) (cs' := #[b0, b1, b2, b3, a4, a5, a6, a7, a8, a9, a10, a11, a12]) rfl
  have h4 := Blk.eq (h3.set_ 4 b4) (cs' := #[b0, b1, b2, b3, b4, a5, a6, a7, a8, a9, a10, a11, a12]) rfl
  have h5 := Blk.eq (h4.set_ 5 b5) (cs' := #[b0, b1, b2, b3, b4, b5, a6, a7, a8, a9, a10, a11, a12]) rfl
  have h6 := Blk.eq (h5.set_ 6 b6) (cs' := #[b0, b1, b2, b3, b4, b5, b6, a7, a8, a9, a10, a11, a12]) rfl
  have h7 := Blk.eq (h6.set_ 7 b7) (cs' := #[b0, b1, b2, b3, b4, b5, b6, b7, a8, a9, a10, a11, a12]) rfl
  have h8 := Blk.eq (h7.set_ 8 b8) (cs' := #[b0, b1, b2, b3, b4, b5, b6, b7, b8, a9, a10, a11, a12]) rfl
  have h9 := Blk.eq (h8.set_ 9 b9) (cs' := #[b0, b1, b2, b3, b4, b5, b6, b7, b8, b9, a10, a11, a12]) rfl
  have h10 := Blk.eq (h9.set_ 10 b10) (cs' := #[b0, b1, b2, b3, b4, b5, b6, b7, b8, b9, b10, a11, a12]) rfl
  have h11 := Blk.eq (h10.set_ 11 b11) (cs' := #[b0, b1, b2, b3, b4, b5, b6, b7, b8, b9, b10, b11, a12]) rfl
  have h12 := Blk.eq (h11.set_ 12 b12) (cs' := #[b0, b1, b2, b3, b4, b5, b6, b7, b8, b9, b10, b11, b12]) rfl
  exact h12
theorem off_fill13 {w : World} {g : Nat} {b0 b1 b2 b3 b4 b5 b6 b7 b8 b9 b10 b11 b12 : Value} : Off [g] w (((((((((((((w.setCell ⟨g, 0, none⟩ b0).setCell ⟨g, 1, none⟩ b1).setCell ⟨g, 2, none⟩ b2).setCell ⟨g, 3, none⟩ b3).setCell ⟨g, 4, none⟩ b4).setCell ⟨g, 5, none⟩ b5).setCell ⟨g, 6, none⟩ b6).setCell ⟨g, 7, none⟩ b7).setCell ⟨g, 8, none⟩ b8).setCell ⟨g, 9, none⟩ b9).setCell ⟨g, 10, none⟩ b10).setCell ⟨g, 11, none⟩ b11).setCell ⟨g, 12, none⟩ b12) := (((((((((((((Off.refl [g] w).setCell (p := ⟨g, 0, none⟩) (by simp) b0).setCell (p := ⟨g, 1, none⟩) (by simp) b1).setCell (p := ⟨g, 2, none⟩) (by simp) b2).setCell (p := ⟨g, 3, none⟩) (by simp) b3).setCell (p := ⟨g, 4, none⟩) (by simp) b4).setCell (p := ⟨g, 5, none⟩) (by simp) b5).setCell (p := ⟨g, 6, none⟩) (by simp) b6).setCell (p := ⟨g, 7, none⟩) (by simp) b7).setCell (p := ⟨g, 8, none⟩) (by simp) b8).setCell (p := ⟨g, 9, none⟩) (by simp) b9).setCell (p := ⟨g, 10, none⟩) (by simp) b10).setCell (p := ⟨g, 11, none⟩) (by simp) b11).setCell (p := ⟨g, 12, none⟩) (by simp) b12

set_option maxRecDepth 100000 in
set_option maxHeartbeats 8000000 in
theorem applyOptions_none (g p1 p2 p3 p4 p5 p6 p7 p8 : Nat) (w : World) (h : OptsAt w g p1 p2 p3 p4 p5 p6 p7 p8) :
    Calls Tryz.prog 10 #[.slice (some ⟨g, 0, none⟩) 8 8] w fun e w' => e = .returned (.agg (optCells 1025 2048)) ∧ Off [] w w' := by
  obtain ⟨h0, h1, h2, h3, h4, h5, h6, h7, h8⟩ := h
  have P1 := Lib.hid h1
  have P2 := Lib.hid h2
  have P3 := Lib.hid h3
  have P4 := Lib.hid h4
  have P5 := Lib.hid h5
  have P6 := Lib.hid h6
  have P7 := Lib.hid h7
  have P8 := Lib.hid h8
  have G := Lib.hid h0
  have hgl := h0.lt
  have lts : p1 < w.heap.size ∧ p2 < w.heap.size ∧ p3 < w.heap.size ∧ p4 < w.heap.size ∧ p5 < w.heap.size ∧ p6 < w.heap.size ∧ p7 < w.heap.size ∧ p8 < w.heap.size := ⟨h1.lt, h2.lt, h3.lt, h4.lt, h5.lt, h6.lt, h7.lt, h8.lt⟩
  obtain ⟨l1, l2, l3, l4, l5, l6, l7, l8⟩ := lts
  have c0 := fun o1 o2 => ((h0.alloc o1).alloc o2).cell 0
  simp at c0
  clear h0 h1 h2 h3 h4 h5 h6 h7 h8
  go_enter Tryz.func10, Tryz.ntmps10
  go_wp2_with fail
  refine wp_loop_rounds 9 ?_
  rw [rounds_succ]
  go_wp2_with fail
  refine (setZeroLengthSectionAsEOF _ p1 _ (Blk.new' (w.alloc _) _ _ (by simp)) ((P1.out.alloc _).alloc _)).mono ?_
  rintro e w1 ⟨rfl, hO, hF⟩
  have hG := hF.blk (show Blk _ _ _ _ from (((G.out).alloc _).alloc _)) (ni1 (by omega))
  have q2 := hF.blk (show Blk _ _ _ _ from (((P2.out).alloc _).alloc _)) (ni1 (by omega))
  have q3 := hF.blk (show Blk _ _ _ _ from (((P3.out).alloc _).alloc _)) (ni1 (by omega))
  have q4 := hF.blk (show Blk _ _ _ _ from (((P4.out).alloc _).alloc _)) (ni1 (by omega))
  have q5 := hF.blk (show Blk _ _ _ _ from (((P5.out).alloc _).alloc _)) (ni1 (by omega))
  have q6 := hF.blk (show Blk _ _ _ _ from (((P6.out).alloc _).alloc _)) (ni1 (by omega))
  have q7 := hF.blk (show Blk _ _ _ _ from (((P7.out).alloc _).alloc _)) (ni1 (by omega))
  have q8 := hF.blk (show Blk _ _ _ _ from (((P8.out).alloc _).alloc _)) (ni1 (by omega))
  have hF' : Off [w.heap.size + 1] w w1 := (((Off.refl [w.heap.size + 1] w).alloc _).alloc _).then hF (fun x h => by simp at h; simp [h])
  have hr := hF.blk (show Blk _ w.heap.size 43 _ from (Blk.new w _ _).alloc _) (ni1 (by omega))
  clear c0 G
  have c0 := hG.cell 1
  simp at c0
  have G := Lib.hid hG
  clear hG
  clear P2
  have P2 := Lib.hid q2
  clear q2
  clear P3
  have P3 := Lib.hid q3
  clear q3
  clear P4
  have P4 := Lib.hid q4
  clear q4
  clear P5
  have P5 := Lib.hid q5
  clear q5
  clear P6
  have P6 := Lib.hid q6
  clear q6
  clear P7
  have P7 := Lib.hid q7
  clear q7
  clear P8
  have P8 := Lib.hid q8
  clear q8
  have O1 := Lib.hid hO
  have F1 := Lib.hid hF'
  have R1 := Lib.hid hr
  clear hO hF hF' hr
  go_wp2_with fail
  rw [rounds_succ]
  go_wp2_with fail
  refine (setStoreIdentityCIDs _ p2 _ O1.out P2.out).mono ?_
  rintro e w2 ⟨rfl, hO, hF⟩
  have hG := hF.blk (show Blk _ _ _ _ from G.out) (ni1 (by omega))
  have q3 := hF.blk (show Blk _ _ _ _ from P3.out) (ni1 (by omega))
  have q4 := hF.blk (show Blk _ _ _ _ from P4.out) (ni1 (by omega))
  have q5 := hF.blk (show Blk _ _ _ _ from P5.out) (ni1 (by omega))
  have q6 := hF.blk (show Blk _ _ _ _ from P6.out) (ni1 (by omega))
  have q7 := hF.blk (show Blk _ _ _ _ from P7.out) (ni1 (by omega))
  have q8 := hF.blk (show Blk _ _ _ _ from P8.out) (ni1 (by omega))
  have hF' : Off [w.heap.size + 1] w w2 := F1.out.then hF (fun x h => by simp at h; simp [h])
  have hr := hF.blk R1.out (ni1 (by omega))
  clear c0 G
  have c0 := hG.cell 2
  simp at c0
  have G := Lib.hid hG
  clear hG
  clear P3
  have P3 := Lib.hid q3
  clear q3
  clear P4
  have P4 := Lib.hid q4
  clear q4
  clear P5
  have P5 := Lib.hid q5
  clear q5
  clear P6
  have P6 := Lib.hid q6
  clear q6
  clear P7
  have P7 := Lib.hid q7
  clear q7
  clear P8
  have P8 := Lib.hid q8
  clear q8
  have O2 := Lib.hid hO
  have F2 := Lib.hid hF'
  have R2 := Lib.hid hr
  clear hO hF hF' hr
  go_wp2_with fail
  rw [rounds_succ]
  go_wp2_with fail
  refine (setAllowDuplicatePuts _ p3 _ O2.out P3.out).mono ?_
  rintro e w3 ⟨rfl, hO, hF⟩
  have hG := hF.blk (show Blk _ _ _ _ from G.out) (ni1 (by omega))
  have q4 := hF.blk (show Blk _ _ _ _ from P4.out) (ni1 (by omega))
  have q5 := hF.blk (show Blk _ _ _ _ from P5.out) (ni1 (by omega))
  have q6 := hF.blk (show Blk _ _ _ _ from P6.out) (ni1 (by omega))
  have q7 := hF.blk (show Blk _ _ _ _ from P7.out) (ni1 (by omega))
  have q8 := hF.blk (show Blk _ _ _ _ from P8.out) (ni1 (by omega))
  have hF' : Off [w.heap.size + 1] w w3 := F2.out.then hF (fun x h => by simp at h; simp [h])
  have hr := hF.blk R2.out (ni1 (by omega))
  clear c0 G
  have c0 := hG.cell 3
  simp at c0
  have G := Lib.hid hG
  clear hG
  clear P4
  have P4 := Lib.hid q4
  clear q4
  clear P5
  have P5 := Lib.hid q5
  clear q5
  clear P6
  have P6 := Lib.hid q6
  clear q6
  clear P7
  have P7 := Lib.hid q7
  clear q7
  clear P8
  have P8 := Lib.hid q8
  clear q8
  have O3 := Lib.hid hO
  have F3 := Lib.hid hF'
  have R3 := Lib.hid hr
  clear hO hF hF' hr
  go_wp2_with fail
  rw [rounds_succ]
  go_wp2_with fail
  refine (setUseWholeCIDs _ p4 _ O3.out P4.out).mono ?_
  rintro e w4 ⟨rfl, hO, hF⟩
  have hG := hF.blk (show Blk _ _ _ _ from G.out) (ni1 (by omega))
  have q5 := hF.blk (show Blk _ _ _ _ from P5.out) (ni1 (by omega))
  have q6 := hF.blk (show Blk _ _ _ _ from P6.out) (ni1 (by omega))
  have q7 := hF.blk (show Blk _ _ _ _ from P7.out) (ni1 (by omega))
  have q8 := hF.blk (show Blk _ _ _ _ from P8.out) (ni1 (by omega))
  have hF' : Off [w.heap.size + 1] w w4 := F3.out.then hF (fun x h => by simp at h; simp [h])
  have hr := hF.blk R3.out (ni1 (by omega))
  clear c0 G
  have c0 := hG.cell 4
  simp at c0
  have G := Lib.hid hG
  clear hG
  clear P5
  have P5 := Lib.hid q5
  clear q5
  clear P6
  have P6 := Lib.hid q6
  clear q6
  clear P7
  have P7 := Lib.hid q7
  clear q7
  clear P8
  have P8 := Lib.hid q8
  clear q8
  have O4 := Lib.hid hO
  have F4 := Lib.hid hF'
  have R4 := Lib.hid hr
  clear hO hF hF' hr
  go_wp2_with fail
  rw [rounds_succ]
  go_wp2_with fail
  refine (setWriteAsCarV1 _ p5 _ O4.out P5.out).mono ?_
  rintro e w5 ⟨rfl, hO, hF⟩
  have hG := hF.blk (show Blk _ _ _ _ from G.out) (ni1 (by omega))
  have q6 := hF.blk (show Blk _ _ _ _ from P6.out) (ni1 (by omega))
  have q7 := hF.blk (show Blk _ _ _ _ from P7.out) (ni1 (by omega))
  have q8 := hF.blk (show Blk _ _ _ _ from P8.out) (ni1 (by omega))
  have hF' : Off [w.heap.size + 1] w w5 := F4.out.then hF (fun x h => by simp at h; simp [h])
  have hr := hF.blk R4.out (ni1 (by omega))
  clear c0 G
  have c0 := hG.cell 5
  simp at c0
  have G := Lib.hid hG
  clear hG
  clear P6
  have P6 := Lib.hid q6
  clear q6
  clear P7
  have P7 := Lib.hid q7
  clear q7
  clear P8
  have P8 := Lib.hid q8
  clear q8
  have O5 := Lib.hid hO
  have F5 := Lib.hid hF'
  have R5 := Lib.hid hr
  clear hO hF hF' hr
  go_wp2_with fail
  rw [rounds_succ]
  go_wp2_with fail
  refine (setWithTrustedCAR _ p6 _ O5.out P6.out).mono ?_
  rintro e w6 ⟨rfl, hO, hF⟩
  have hG := hF.blk (show Blk _ _ _ _ from G.out) (ni1 (by omega))
  have q7 := hF.blk (show Blk _ _ _ _ from P7.out) (ni1 (by omega))
  have q8 := hF.blk (show Blk _ _ _ _ from P8.out) (ni1 (by omega))
  have hF' : Off [w.heap.size + 1] w w6 := F5.out.then hF (fun x h => by simp at h; simp [h])
  have hr := hF.blk R5.out (ni1 (by omega))
  clear c0 G
  have c0 := hG.cell 6
  simp at c0
  have G := Lib.hid hG
  clear hG
  clear P7
  have P7 := Lib.hid q7
  clear q7
  clear P8
  have P8 := Lib.hid q8
  clear q8
  have O6 := Lib.hid hO
  have F6 := Lib.hid hF'
  have R6 := Lib.hid hr
  clear hO hF hF' hr
  go_wp2_with fail
  rw [rounds_succ]
  go_wp2_with fail
  refine (setUseDataPadding _ p7 _ O6.out P7.out).mono ?_
  rintro e w7 ⟨rfl, hO, hF⟩
  have hG := hF.blk (show Blk _ _ _ _ from G.out) (ni1 (by omega))
  have q8 := hF.blk (show Blk _ _ _ _ from P8.out) (ni1 (by omega))
  have hF' : Off [w.heap.size + 1] w w7 := F6.out.then hF (fun x h => by simp at h; simp [h])
  have hr := hF.blk R6.out (ni1 (by omega))
  clear c0 G
  have c0 := hG.cell 7
  simp at c0
  have G := Lib.hid hG
  clear hG
  clear P8
  have P8 := Lib.hid q8
  clear q8
  have O7 := Lib.hid hO
  have F7 := Lib.hid hF'
  have R7 := Lib.hid hr
  clear hO hF hF' hr
  go_wp2_with fail
  rw [rounds_succ]
  go_wp2_with fail
  refine (setUseIndexPadding _ p8 _ O7.out P8.out).mono ?_
  rintro e w8 ⟨rfl, hO, hF⟩
  have hF' : Off [w.heap.size + 1] w w8 := F7.out.then hF (fun x h => by simp at h; simp [h])
  have hr := hF.blk R7.out (ni1 (by omega))
  have O8 := Lib.hid hO
  have F8 := Lib.hid hF'
  have R8 := Lib.hid hr
  clear hO hF hF' hr
  go_wp2_with fail
  clear c0
  have o0 := O8.out.cell 0
  have r0 := R8.out.cell 0
  have rf0 := R8.out.frozen 0
  have o1 := O8.out.cell 1
  have r1 := R8.out.cell 1
  have rf1 := R8.out.frozen 1
  have o2 := O8.out.cell 2
  have r2 := R8.out.cell 2
  have rf2 := R8.out.frozen 2
  have o3 := O8.out.cell 3
  have r3 := R8.out.cell 3
  have rf3 := R8.out.frozen 3
  have o4 := O8.out.cell 4
  have r4 := R8.out.cell 4
  have rf4 := R8.out.frozen 4
  have o5 := O8.out.cell 5
  have r5 := R8.out.cell 5
  have rf5 := R8.out.frozen 5
  have o6 := O8.out.cell 6
  have r6 := R8.out.cell 6
  have rf6 := R8.out.frozen 6
  have o7 := O8.out.cell 7
  have r7 := R8.out.cell 7
  have rf7 := R8.out.frozen 7
  have o8 := O8.out.cell 8
  have r8 := R8.out.cell 8
  have rf8 := R8.out.frozen 8
  have o9 := O8.out.cell 9
  have r9 := R8.out.cell 9
  have rf9 := R8.out.frozen 9
  have o10 := O8.out.cell 10
  have r10 := R8.out.cell 10
  have rf10 := R8.out.frozen 10
  have o11 := O8.out.cell 11
  have r11 := R8.out.cell 11
  have rf11 := R8.out.frozen 11
  have o12 := O8.out.cell 12
  have r12 := R8.out.cell 12
  have rf12 := R8.out.frozen 12
  have of2 := O8.out.frozen 2
  have of4 := O8.out.frozen 4
  simp [optCells] at o0 o1 o2 o3 o4 o5 o6 o7 o8 o9 o10 o11 o12 r0 r1 r2 r3 r4 r5 r6 r7 r8 r9 r10 r11 r12
  rw [rounds_succ]
  go_wp2_with fail
  have hr := (R8.out.far (p := ⟨w.heap.size + 1, 2, none⟩) (by simp) (.int .u64 1025)).far (p := ⟨w.heap.size + 1, 4, none⟩) (by simp) (.int .u64 2048)
  refine bodyPost_ret (results_row rfl _ (Blk.fill13 hr) rfl Tryz.underlying43 rfl (by kernel_rfl)) rfl ⟨rfl, ?_⟩
  refine Off.then ((F8.out.setCell (p := ⟨w.heap.size + 1, 2, none⟩) (by simp) _).setCell (p := ⟨w.heap.size + 1, 4, none⟩) (by simp) _) off_fill13 (fun x h => by simp at h; omega) |>.mono (S' := []) (fun x h => by simp at h; omega)
end Go.Proofs.YtioabgenlaikaaaGreatDoor
