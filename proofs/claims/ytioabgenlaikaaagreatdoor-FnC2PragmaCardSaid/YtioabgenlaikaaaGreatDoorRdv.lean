/- impl.RdVersion over a file that begins with the pragma; impl.C2Pragma. -/
import Derived.Test.YtioabgenlaikaaaGreatDoorHd
namespace Go.Proofs.YtioabgenlaikaaaGreatDoor
open Go.RowKit

theorem seg_of_string (W : World) (s : ByteArray) (c : Nat) (t : TypeId) (fr : Nat × Nat) : Seg (W.alloc (.cells (bytesRow s c) t fr)) W.heap.size 0 s.data.toList := by
  have hh := heap_alloc_new W (.cells (bytesRow s c) t fr)
  rw [← bytesRow_list] at hh
  have hs := Seg.of_bytes hh
  rw [bytesRow_list] at hs
  exact hs

theorem Eof.offH {S : List Nat} {a a' b : World} (k : Off S a b) (h : Eof a') (e : a.heap = a'.heap) (hS : 3 ∉ S) : Eof b := by
  obtain ⟨q, hq⟩ := h
  have hq' : a.cell? ⟨3, 0, none⟩ = some (.iface 78 q) := (World.cell?_of_block (by rw [e])).trans hq
  exact Eof.off ⟨q, hq'⟩ k hS
theorem Off.segH {S : List Nat} {a a' b : World} {g o : Nat} {l : List UInt8} (k : Off S a b) (h : Seg a' g o l) (e : a.heap = a'.heap) (hg : g ∉ S) : Seg b g o l :=
  k.seg (h.keep fun p _ => World.cell?_of_block (by rw [e])) hg

set_option maxRecDepth 100000 in
set_option maxHeartbeats 4000000 in
theorem rdVersion_ok (s : ByteArray) (w : World) (hL : s.size ≤ 2147483700) (h11 : 11 ≤ s.data.toList.length) (h0 : (s.data.toList[0]'(by omega)).toNat = 10) (hm : (s.data.toList.drop (0 + 1)).take 10 = mapBytes) (hE : Eof w) :
    Calls Tryz.prog 4 #[.string s, .agg noOpt] w fun e w' => e = .returned (.tuple #[.int .u64 2, .bool true]) ∧ Below w.heap.size w w' := by
  obtain ⟨C, hC⟩ : ∃ C, grownCap (w.alloc (.cells #[.bool false, .bool false, .bool false, .bool false, .bool false, .bool false, .int .u64 0, .int .u64 0, .int .u64 0, .int .u64 0, .int .u64 0, .int .u64 0] 26)).drew s.size 0 5 = C := ⟨_, rfl⟩
  have hCs : s.size ≤ C := by rw [← hC]; exact grownCap_ge _ _ _ _
  have hcv := run_bytes_of_string (P := Tryz.prog) (w.alloc (.cells #[.bool false, .bool false, .bool false, .bool false, .bool false, .bool false, .int .u64 0, .int .u64 0, .int .u64 0, .int .u64 0, .int .u64 0, .int .u64 0] 26)).drew 9 35 5 s Tryz.underlying9 Tryz.underlying35 Tryz.underlying5
  rw [hC] at hcv
  have hseg : Seg ((w.alloc (.cells #[.bool false, .bool false, .bool false, .bool false, .bool false, .bool false, .int .u64 0, .int .u64 0, .int .u64 0, .int .u64 0, .int .u64 0, .int .u64 0] 26)).alloc (.cells (bytesRow s C) 5 ((bytesRow s C).size, (bytesRow s C).size + 1))) (w.heap.size + 1) 0 s.data.toList := by
    have h := seg_of_string (w.alloc (.cells #[.bool false, .bool false, .bool false, .bool false, .bool false, .bool false, .int .u64 0, .int .u64 0, .int .u64 0, .int .u64 0, .int .u64 0, .int .u64 0] 26)) s C 5 ((bytesRow s C).size, (bytesRow s C).size + 1)
    have e : (w.alloc (.cells #[.bool false, .bool false, .bool false, .bool false, .bool false, .bool false, .int .u64 0, .int .u64 0, .int .u64 0, .int .u64 0, .int .u64 0, .int .u64 0] 26)).heap.size = w.heap.size + 1 := by simp
    rwa [e] at h
  have HSG := Lib.hid hseg
  have HE := Lib.hid (show Eof ((w.alloc (.cells #[.bool false, .bool false, .bool false, .bool false, .bool false, .bool false, .int .u64 0, .int .u64 0, .int .u64 0, .int .u64 0, .int .u64 0, .int .u64 0] 26)).alloc (.cells (bytesRow s C) 5 ((bytesRow s C).size, (bytesRow s C).size + 1))) from hE.off (S := []) (((Off.refl [] w).alloc _).alloc _) (by simp))
  have HX := Lib.hid (fun (R b g p1 p2 p3 p4 p5 p6 p7 p8 : Nat) W (k1 : RdC W R b s.size C 0 (-1)) (k2 : Seg W b 0 s.data.toList) (k3 : R ≠ b) (k4 : Eof W) (k5 : 3 < R) (k6 : OptsAt W g p1 p2 p3 p4 p5 p6 p7 p8) => readVersion_ok R b s.size C g p1 p2 p3 p4 p5 p6 p7 p8 (-1) s.data.toList W (by simp) k1 k2 k3 hL hCs (by simpa using h11) h0 hm k4 k5 k6)
  have hEl : 3 < w.heap.size := by obtain ⟨q, hq⟩ := hE; exact World.block_lt_of_cell? _ _ hq
  clear hseg hE h0 hm h11 hC
  have hb := Blk.new w 26 noOpt
  have HB := Lib.hid hb
  unfold noOpt
  clear hb
  go_enter Tryz.func4, Tryz.ntmps4
  go_wp2_with fail
  go_region_held (fun w' => Blk w' w.heap.size 26 noOpt ∧ w'.cell? ⟨w.heap.size, 0, none⟩ = some (.bool false) ∧ w'.cell? ⟨w.heap.size, 1, none⟩ = some (.bool false) ∧ w'.cell? ⟨w.heap.size, 2, none⟩ = some (.bool false) ∧ w'.cell? ⟨w.heap.size, 3, none⟩ = some (.bool false) ∧ w'.cell? ⟨w.heap.size, 4, none⟩ = some (.bool false) ∧ w'.cell? ⟨w.heap.size, 5, none⟩ = some (.bool false) ∧ w'.cell? ⟨w.heap.size, 6, none⟩ = some (.int .u64 0) ∧ w'.cell? ⟨w.heap.size, 7, none⟩ = some (.int .u64 0) ∧ w'.cell? ⟨w.heap.size, 8, none⟩ = some (.int .u64 0) ∧ w'.cell? ⟨w.heap.size, 9, none⟩ = some (.int .u64 0) ∧ w'.cell? ⟨w.heap.size, 10, none⟩ = some (.int .u64 0) ∧ w'.cell? ⟨w.heap.size, 11, none⟩ = some (.int .u64 0)) (first | (exact ⟨HB.out, (HB.out).cell 0, (HB.out).cell 1, (HB.out).cell 2, (HB.out).cell 3, (HB.out).cell 4, (HB.out).cell 5, (HB.out).cell 6, (HB.out).cell 7, (HB.out).cell 8, (HB.out).cell 9, (HB.out).cell 10, (HB.out).cell 11⟩) | (exact ⟨HB.out.alloc _, (HB.out.alloc _).cell 0, (HB.out.alloc _).cell 1, (HB.out.alloc _).cell 2, (HB.out.alloc _).cell 3, (HB.out.alloc _).cell 4, (HB.out.alloc _).cell 5, (HB.out.alloc _).cell 6, (HB.out.alloc _).cell 7, (HB.out.alloc _).cell 8, (HB.out.alloc _).cell 9, (HB.out.alloc _).cell 10, (HB.out.alloc _).cell 11⟩) | (exact ⟨K1.out, (K1.out).cell 0, (K1.out).cell 1, (K1.out).cell 2, (K1.out).cell 3, (K1.out).cell 4, (K1.out).cell 5, (K1.out).cell 6, (K1.out).cell 7, (K1.out).cell 8, (K1.out).cell 9, (K1.out).cell 10, (K1.out).cell 11⟩) | (exact ⟨K2.out, (K2.out).cell 0, (K2.out).cell 1, (K2.out).cell 2, (K2.out).cell 3, (K2.out).cell 4, (K2.out).cell 5, (K2.out).cell 6, (K2.out).cell 7, (K2.out).cell 8, (K2.out).cell 9, (K2.out).cell 10, (K2.out).cell 11⟩) | (exact ⟨K3.out, (K3.out).cell 0, (K3.out).cell 1, (K3.out).cell 2, (K3.out).cell 3, (K3.out).cell 4, (K3.out).cell 5, (K3.out).cell 6, (K3.out).cell 7, (K3.out).cell 8, (K3.out).cell 9, (K3.out).cell 10, (K3.out).cell 11⟩)) (first
    | (go_at_call 7; refine (newBr_ok _ _ _ _).mono ?_; rintro e w1 ⟨rfl, r1, o1, z1⟩; have k1 : Blk w1 w.heap.size 26 noOpt := o1.blk (HB.out.alloc _) (by simp); have s1 := o1.segH HSG.out rfl (by simp); have S1 := Lib.hid s1; clear s1; have E1 := Lib.hid (Eof.offH o1 HE.out rfl (by simp)); have RR1 := Lib.hid (Blk.at (g' := w.heap.size + 1 + 1) r1 (by simp [World.drew])); have K1 := Lib.hid k1; have R1 := Lib.hid r1; have O1 := Lib.hid o1; have Z1 := Lib.hid z1; clear k1 r1 o1 z1)
    | (go_at_call 8; refine (options_none _).mono ?_; rintro e w2 ⟨g, p1, p2, p3, p4, p5, p6, p7, p8, rfl, oa, o2⟩; have k2 := o2.blk K1.out (by simp); have K2 := Lib.hid k2; have OA := Lib.hid oa; have O2 := Lib.hid o2; have HV := Lib.hid (HX.out (w.heap.size + 1 + 1) (w.heap.size + 1) g p1 p2 p3 p4 p5 p6 p7 p8 w2 (show RdC w2 (w.heap.size + 1 + 1) (w.heap.size + 1) s.size C 0 (-1) from o2.blk RR1.out (by simp)) (o2.seg S1.out (by simp)) (by omega) (E1.out.off o2 (by simp)) (by omega) oa); clear k2 oa o2)
    | (go_at_call 6; refine HV.out.mono ?_; rintro e w3 ⟨rfl, o3⟩; have k3 := o3.blk K2.out (by simp; omega); have K3 := Lib.hid k3; have O3 := Lib.hid o3; clear k3 o3))
  have hO : Off [] w w3 := (((((((Off.refl [] w).alloc (.cells #[.bool false, .bool false, .bool false, .bool false, .bool false, .bool false, .int .u64 0, .int .u64 0, .int .u64 0, .int .u64 0, .int .u64 0, .int .u64 0] 26)).alloc (.cells (bytesRow s C) 5 ((bytesRow s C).size, (bytesRow s C).size + 1)))).next O1.out ⟨rfl, rfl, rfl, rfl⟩ (by simp)).then O2.out (by simp)).then O3.out (fun x h => by simp at h; right; omega))
  have HO := Lib.hid hO
  clear hO
  go_wp2_with fail
  go_quiet (fail)
  go_wp2_with fail
  go_ret2
  exact ⟨rfl, (HO.out.drewN _).below (by simp)⟩
end Go.Proofs.YtioabgenlaikaaaGreatDoor
