/-
  car.GenerateIndex, impl.IxMake over a file of version 1 behind whose sections a zero byte stands.
  impl.IxMake over a file of version 1 behind whose sections a zero byte stands.
  laws.zzFits2, zzFits6, zzFits5, zzFits4 over files in memory.
  (No condition beyond those that each theorem states.)
-/
import Derived.Test.YtkdbjocchponfaaGreatDoorM44
import Derived.Test.YtkdbjocchponfaaGreatDoorM28
import Derived.Test.YtkdbjocchponfaaGreatDoorM39
import Derived.Deep.LoopGhost
namespace Go.Proofs.YtkdbjocchponfaaGreatDoor
open Go.RowKit

set_option maxRecDepth 100000 in
set_option maxHeartbeats 3000000 in
theorem generateIndex_z (z : Bool) (rs : List Ent) (bs : List Bk) (t l : List UInt8) (g p1 p2 p3 p4 p5 p6 p7 p8 R b cap : Nat) (w : World) (hrs : ∀ e, e ∈ rs → e.ok ∧ e.dg.size ≤ 200) (hbs : ∀ b, b ∈ bs → b.ok) (hn2 : rs.length ≤ 50) (hm2 : bs.length ≤ 50)
    (ho : OptsZ z w g p1 p2 p3 p4 p5 p6 p7 p8) (h : RAt R b cap l 0 w) (hl : l = hdrB (rs.map cidB) 1 ++ (secs bs ++ (0 :: t))) (hE : Eof w) (hER : 0 < R) :
    Calls Tryz.prog 17 #[.iface 58 (.pointer (some ⟨R, 0, none⟩)), .slice (some ⟨g, 0, none⟩) 8 8] w fun e w' => Off [R] w w' ∧
      (z = true → ∃ pb, e = .returned (.tuple #[.iface 99 (.pointer (some ⟨pb, 0, none⟩)), .nilIface]) ∧ ∀ W2, Off [] w' W2 → Calls Tryz.prog 20 #[.iface 99 (.pointer (some ⟨pb, 0, none⟩)), .nilIface] W2 fun e w2 => ∃ s, Enc 1025 ((genE (hdrB (rs.map cidB) 1).length bs).map fun e => (e.code, e.it.rw)) s ∧ e = .returned (.tuple #[.string ⟨s.toArray⟩, .bool true]) ∧ Off [] W2 w2) ∧
      (z = false → ∃ a, e = .returned (.tuple #[.nilIface, .iface 153 (.pointer (some a))])) := by
  have hRl := h.lt
  have hbl : b < w.heap.size := h.seg.lt (by rw [hl, List.length_append, List.length_append]; simp; omega)
  obtain ⟨es, hes⟩ : ∃ es, es = genE (hdrB (rs.map cidB) 1).length bs := ⟨_, rfl⟩
  have HLI := Lib.hid (fun (pb mm : Nat) (W : World) (k1 : OptsZ z W g p1 p2 p3 p4 p5 p6 p7 p8) (k2 : RAt R b cap l 0 W) (k3 : Eof W) (k4 : W.cell? ⟨pb, 0, none⟩ = some (.map (some mm))) (k5 : Mp Tryz.prog 30 .u64 W mm 0 [] (fun _ => undef)) (k6 : pb ≠ mm) (k7 : pb ≠ R) (k8 : mm ≠ R) (k9 : mm ≠ b) => loadIndex_z z rs bs t l g p1 p2 p3 p4 p5 p6 p7 p8 R b cap pb mm W hrs hbs hn2 hm2 k1 k2 hl k3 hER k4 k5 k6 k7 k8 k9)
  rw [← hes] at HLI ⊢
  have HA0 := Lib.hid (applyOptions_z z g p1 p2 p3 p4 p5 p6 p7 p8 w ho)
  have HOP := Lib.hid ho
  have HRA := Lib.hid h
  have HE := Lib.hid hE
  have hEl : 0 < w.heap.size := by obtain ⟨q, hq⟩ := hE; exact World.block_lt_of_cell? _ _ hq
  clear hrs hbs hn2 hm2 ho h hl hE hes
  go_enter Tryz.func17, Tryz.ntmps17
  go_wp2_with fail
  refine HA0.out.mono ?_
  rintro e w1 ⟨rfl, hO1⟩
  have hz1' := hO1.size
  have hrow : Blk ((w1.alloc (.cells zeroOptsZ 71)).setRow w1.heap.size (optCellsZ z 1025 2048)) w1.heap.size 71 (optCellsZ z 1025 2048) := setRow_heap _ _ _ _ _ _ (Blk.new w1 _ zeroOptsZ)
  have hoff : Off [] w ((w1.alloc (.cells zeroOptsZ 71)).setRow w1.heap.size (optCellsZ z 1025 2048)) := (hO1.alloc (.cells zeroOptsZ 71)).then (off_setRow (Blk.new w1 _ zeroOptsZ) _) (fun x h => by simp at h; right; omega)
  obtain ⟨w2, hw2⟩ : ∃ w2, w2 = (w1.alloc (.cells zeroOptsZ 71)).setRow w1.heap.size (optCellsZ z 1025 2048) := ⟨_, rfl⟩
  rw [← hw2] at hrow hoff
  have c2 : w2.cell? ⟨w1.heap.size, 2, none⟩ = some (.int .u64 1025) := hrow.cell 2
  have hsz2 := hoff.size
  have HOFF := Lib.hid hoff
  have HW2 := Lib.hid hw2
  have HNW := Lib.hid (new_mis w2)
  clear hrow hoff hw2 hO1
  unfold zeroOptsZ at HW2
  go_wp2_with (first
    | ((with_reducible show wpList _ _ _ _ _ _); refine wpList_store_row rfl 71 (.tmp 6) (.tmp 11) rfl w1.heap.size (optCellsZ z 1025 2048) rfl rfl 71 _ (Blk.new w1 _ _) (opt_infoZ z) rfl (opt_allZ z) ?_; rw [← HW2.out])
    | (go_at_call 29; refine HNW.out.mono ?_; rintro e w3 ⟨pb, mm, rfl, hp1, hm1', ho1, hpb, hmm, hpm⟩))
  have hO3 : Off [] w w3 := HOFF.out.then ho1 (fun x hx => by simp at hx)
  have HL := Lib.hid (HLI.out pb mm w3 (HOP.out.off hO3 (fun x hx => by simp at hx)) (HRA.out.off hO3 (by simp) (by simp)) (HE.out.off hO3 (by simp)) hp1 hm1' hpm (by omega) (by omega) (by omega))
  have HO3 := Lib.hid hO3
  have hmw : w.heap.size ≤ mm := by omega
  clear hp1 hm1' ho1 hpb hmm hpm hO3
  cases z with
  | true =>
    go_wp2_with (go_at_call 30; refine HL.out.mono ?_; rintro e w4 ⟨h1, _⟩; obtain ⟨rfl, hLo⟩ := h1 rfl; have HLO := Lib.hid hLo; clear hLo h1)
    go_ret2
    obtain ⟨ho4, hwr⟩ := HLO.out
    have hO : Off [R] w w4 := (HO3.out.mono (S' := [R]) (fun x hx => by simp at hx)).then ho4 (fun x hx => by simp at hx; rcases hx with rfl | rfl; exact Or.inl (by simp); exact Or.inr hmw)
    exact ⟨hO, pb, rfl, hwr⟩
  | false =>
    go_wp2_with (go_at_call 30; refine HL.out.mono ?_; rintro e w4 ⟨_, h1⟩; obtain ⟨ae, rfl, hLo⟩ := h1 rfl; have HLO := Lib.hid hLo; clear hLo h1)
    go_ret2
    have hO : Off [R] w w4 := (HO3.out.mono (S' := [R]) (fun x hx => by simp at hx)).then HLO.out (fun x hx => Or.inl hx)
    exact ⟨hO, ae, rfl⟩
end Go.Proofs.YtkdbjocchponfaaGreatDoor
namespace Go.Proofs.YtkdbjocchponfaaGreatDoor
open Go.RowKit

theorem seg_of_string (W : World) (s : ByteArray) (c : Nat) (t : TypeId) (fr : Nat × Nat) : Seg (W.alloc (.cells (bytesRow s c) t fr)) W.heap.size 0 s.data.toList := by
  have hh := heap_alloc_new W (.cells (bytesRow s c) t fr)
  rw [← bytesRow_list] at hh
  have hs := Seg.of_bytes hh
  rw [bytesRow_list] at hs
  exact hs

theorem Eof.offH {S : List Nat} {a a' b : World} (k : Off S a b) (h : Eof a') (e : a.heap = a'.heap) (hS : 0 ∉ S) : Eof b := by
  obtain ⟨q, hq⟩ := h
  have hq' : a.cell? ⟨0, 0, none⟩ = some (.iface 153 q) := (World.cell?_of_block (by rw [e])).trans hq
  exact Eof.off ⟨q, hq'⟩ k hS
theorem Off.segH {S : List Nat} {a a' b : World} {g o : Nat} {l : List UInt8} (k : Off S a b) (h : Seg a' g o l) (e : a.heap = a'.heap) (hg : g ∉ S) : Seg b g o l :=
  k.seg (h.keep fun p _ => World.cell?_of_block (by rw [e])) hg

set_option maxRecDepth 100000 in
theorem written_err (_t : TypeId) (p : Value) (w : World) : Calls Tryz.prog 20 #[.nilIface, .iface 153 p] w fun e w' => e = .returned (.tuple #[.string ⟨#[]⟩, .bool false]) ∧ w = w' := by
  go_enter Tryz.func20, Tryz.ntmps20
  go_wp2_with fail
  go_ret2
  exact ⟨rfl, rfl⟩

set_option maxRecDepth 100000 in
set_option maxHeartbeats 4000000 in
theorem ixMake_true (rs : List Ent) (bs : List Bk) (t : List UInt8) (s : ByteArray) (w : World) (hrs : ∀ e, e ∈ rs → e.ok ∧ e.dg.size ≤ 200) (hbs : ∀ b, b ∈ bs → b.ok) (hn2 : rs.length ≤ 50) (hm2 : bs.length ≤ 50) (hL : s.size ≤ 2147483700)
    (hl : s.data.toList = hdrB (rs.map cidB) 1 ++ (secs bs ++ (0 :: t))) (hE : Eof w) (z : Bool) (hz : z = true) :
    Calls Tryz.prog 9 #[.string s, .agg (zOpt z)] w fun e w' => Off [] w w' ∧
      ∃ s2, Enc 1025 ((genE (hdrB (rs.map cidB) 1).length bs).map fun e => (e.code, e.it.rw)) s2 ∧ e = .returned (.tuple #[.string ⟨s2.toArray⟩, .bool true]) := by
  obtain ⟨C, hC⟩ : ∃ C, grownCap (w.alloc (.cells #[.bool z, .bool false, .bool false, .bool false, .bool false, .bool false, .int .u64 0, .int .u64 0, .int .u64 0, .int .u64 0, .int .u64 0, .int .u64 0] 36)).drew s.size 0 5 = C := ⟨_, rfl⟩
  have hCs : s.size ≤ C := by rw [← hC]; exact grownCap_ge _ _ _ _
  have hcv := run_bytes_of_string (P := Tryz.prog) (w.alloc (.cells #[.bool z, .bool false, .bool false, .bool false, .bool false, .bool false, .int .u64 0, .int .u64 0, .int .u64 0, .int .u64 0, .int .u64 0, .int .u64 0] 36)).drew 9 32 5 s Tryz.underlying9 Tryz.underlying32 Tryz.underlying5
  rw [hC] at hcv
  have hseg : Seg ((w.alloc (.cells #[.bool z, .bool false, .bool false, .bool false, .bool false, .bool false, .int .u64 0, .int .u64 0, .int .u64 0, .int .u64 0, .int .u64 0, .int .u64 0] 36)).alloc (.cells (bytesRow s C) 5 ((bytesRow s C).size, (bytesRow s C).size + 1))) (w.heap.size + 1) 0 s.data.toList := by
    have h := seg_of_string (w.alloc (.cells #[.bool z, .bool false, .bool false, .bool false, .bool false, .bool false, .int .u64 0, .int .u64 0, .int .u64 0, .int .u64 0, .int .u64 0, .int .u64 0] 36)) s C 5 ((bytesRow s C).size, (bytesRow s C).size + 1)
    have e : (w.alloc (.cells #[.bool z, .bool false, .bool false, .bool false, .bool false, .bool false, .int .u64 0, .int .u64 0, .int .u64 0, .int .u64 0, .int .u64 0, .int .u64 0] 36)).heap.size = w.heap.size + 1 := by simp
    rwa [e] at h
  have HSG := Lib.hid hseg
  have HE := Lib.hid (show Eof ((w.alloc (.cells #[.bool z, .bool false, .bool false, .bool false, .bool false, .bool false, .int .u64 0, .int .u64 0, .int .u64 0, .int .u64 0, .int .u64 0, .int .u64 0] 36)).alloc (.cells (bytesRow s C) 5 ((bytesRow s C).size, (bytesRow s C).size + 1))) from hE.off (S := []) (((Off.refl [] w).alloc _).alloc _) (by simp))
  obtain ⟨es, hes⟩ : ∃ es, es = genE (hdrB (rs.map cidB) 1).length bs := ⟨_, rfl⟩
  have hsl : s.data.toList.length = s.size := by simp
  have HX := Lib.hid (fun (R b g p1 p2 p3 p4 p5 p6 p7 p8 : Nat) W (k1 : RAt R b C s.data.toList 0 W) (k4 : Eof W) (k5 : 0 < R) (k6 : OptsZ z W g p1 p2 p3 p4 p5 p6 p7 p8) => generateIndex_z z rs bs t s.data.toList g p1 p2 p3 p4 p5 p6 p7 p8 R b C W hrs hbs hn2 hm2 k6 k1 hl k4 k5)
  rw [← hes] at HX ⊢
  have HWE := Lib.hid (written_err 0)
  have hEl : 0 < w.heap.size := by obtain ⟨q, hq⟩ := hE; exact World.block_lt_of_cell? _ _ hq
  have HSL := Lib.hid hsl
  have HZ := Lib.hid hz
  clear hseg hE hl hC hrs hbs hn2 hm2 hes hsl hz
  have hb := Blk.new w 36 (zOpt z)
  have HB := Lib.hid hb
  unfold zOpt
  clear hb
  go_enter Tryz.func9, Tryz.ntmps9
  go_wp2_with fail
  go_region_held (fun w' => Blk w' w.heap.size 36 (zOpt z) ∧ w'.cell? ⟨w.heap.size, 0, none⟩ = some (.bool z) ∧ w'.cell? ⟨w.heap.size, 1, none⟩ = some (.bool false) ∧ w'.cell? ⟨w.heap.size, 2, none⟩ = some (.bool false) ∧ w'.cell? ⟨w.heap.size, 3, none⟩ = some (.bool false) ∧ w'.cell? ⟨w.heap.size, 4, none⟩ = some (.bool false) ∧ w'.cell? ⟨w.heap.size, 5, none⟩ = some (.bool false) ∧ w'.cell? ⟨w.heap.size, 6, none⟩ = some (.int .u64 0) ∧ w'.cell? ⟨w.heap.size, 7, none⟩ = some (.int .u64 0) ∧ w'.cell? ⟨w.heap.size, 8, none⟩ = some (.int .u64 0) ∧ w'.cell? ⟨w.heap.size, 9, none⟩ = some (.int .u64 0) ∧ w'.cell? ⟨w.heap.size, 10, none⟩ = some (.int .u64 0) ∧ w'.cell? ⟨w.heap.size, 11, none⟩ = some (.int .u64 0)) (first | (exact ⟨HB.out, (HB.out).cell 0, (HB.out).cell 1, (HB.out).cell 2, (HB.out).cell 3, (HB.out).cell 4, (HB.out).cell 5, (HB.out).cell 6, (HB.out).cell 7, (HB.out).cell 8, (HB.out).cell 9, (HB.out).cell 10, (HB.out).cell 11⟩) | (exact ⟨HB.out.alloc _, (HB.out.alloc _).cell 0, (HB.out.alloc _).cell 1, (HB.out.alloc _).cell 2, (HB.out.alloc _).cell 3, (HB.out.alloc _).cell 4, (HB.out.alloc _).cell 5, (HB.out.alloc _).cell 6, (HB.out.alloc _).cell 7, (HB.out.alloc _).cell 8, (HB.out.alloc _).cell 9, (HB.out.alloc _).cell 10, (HB.out.alloc _).cell 11⟩) | (exact ⟨K1.out, (K1.out).cell 0, (K1.out).cell 1, (K1.out).cell 2, (K1.out).cell 3, (K1.out).cell 4, (K1.out).cell 5, (K1.out).cell 6, (K1.out).cell 7, (K1.out).cell 8, (K1.out).cell 9, (K1.out).cell 10, (K1.out).cell 11⟩) | (exact ⟨K2.out, (K2.out).cell 0, (K2.out).cell 1, (K2.out).cell 2, (K2.out).cell 3, (K2.out).cell 4, (K2.out).cell 5, (K2.out).cell 6, (K2.out).cell 7, (K2.out).cell 8, (K2.out).cell 9, (K2.out).cell 10, (K2.out).cell 11⟩) | (exact ⟨K3.out, (K3.out).cell 0, (K3.out).cell 1, (K3.out).cell 2, (K3.out).cell 3, (K3.out).cell 4, (K3.out).cell 5, (K3.out).cell 6, (K3.out).cell 7, (K3.out).cell 8, (K3.out).cell 9, (K3.out).cell 10, (K3.out).cell 11⟩)) (first
    | (go_at_call 18; refine (newBr_ok _ _ _ _).mono ?_; rintro e w1 ⟨rfl, r1, o1, z1⟩; have k1 : Blk w1 w.heap.size 36 (zOpt z) := o1.blk (HB.out.alloc _) (by simp); have s1 := o1.segH HSG.out rfl (by simp); have S1 := Lib.hid s1; clear s1; have E1 := Lib.hid (Eof.offH o1 HE.out rfl (by simp)); have RR1 := Lib.hid (Blk.at (g' := w.heap.size + 1 + 1) r1 (by simp [World.drew])); have K1 := Lib.hid k1; have R1 := Lib.hid r1; have O1 := Lib.hid o1; have Z1 := Lib.hid z1; clear k1 r1 o1 z1)
    | (go_at_call 19; refine (options_z z _).mono ?_; rintro e w2 ⟨g, p1, p2, p3, p4, p5, p6, p7, p8, rfl, oa, o2⟩; have k2 := o2.blk K1.out (by simp); have K2 := Lib.hid k2; have OA := Lib.hid oa; have O2 := Lib.hid o2; have HV := Lib.hid (HX.out (w.heap.size + 1 + 1) (w.heap.size + 1) g p1 p2 p3 p4 p5 p6 p7 p8 w2 ⟨⟨-1, by rw [HSL.out]; exact (show RdC w2 (w.heap.size + 1 + 1) (w.heap.size + 1) s.size C 0 (-1) from o2.blk RR1.out (by simp))⟩, o2.seg S1.out (by simp), by omega, by rw [HSL.out]; exact hL, by rw [HSL.out]; exact hCs⟩ (E1.out.off o2 (by simp)) (by omega) oa); clear k2 oa o2)
    | (go_at_call 17; refine HV.out.mono ?_; rintro e w3 ⟨o3, hT, _⟩; obtain ⟨pb, rfl, hw3⟩ := hT HZ.out; have k3 := o3.blk K2.out (by simp; omega); have K3 := Lib.hid k3; have O3 := Lib.hid o3; have HW3 := Lib.hid hw3; clear hT hw3; clear k3 o3))
  have hO : Off [] w w3 := (((((((Off.refl [] w).alloc (.cells #[.bool z, .bool false, .bool false, .bool false, .bool false, .bool false, .int .u64 0, .int .u64 0, .int .u64 0, .int .u64 0, .int .u64 0, .int .u64 0] 36)).alloc (.cells (bytesRow s C) 5 ((bytesRow s C).size, (bytesRow s C).size + 1)))).next O1.out ⟨rfl, rfl, rfl, rfl⟩ (by simp)).then O2.out (by simp)).then O3.out (fun x h => by simp at h; right; omega))
  have HO := Lib.hid hO
  clear hO
  have HDR := Lib.hid (Off.refl [] w3)
  go_wp2_with (go_at_call 20; refine (HW3.out _ (HDR.out)).mono ?_; rintro e w4 ⟨s2, h1, rfl, h2⟩; have HE4 := Lib.hid h1; have HO4 := Lib.hid h2; clear h1 h2)
  go_ret2
  exact ⟨HO.out.then HO4.out (by simp), s2, HE4.out, rfl⟩

set_option maxRecDepth 100000 in
set_option maxHeartbeats 4000000 in
theorem ixMake_false (rs : List Ent) (bs : List Bk) (t : List UInt8) (s : ByteArray) (w : World) (hrs : ∀ e, e ∈ rs → e.ok ∧ e.dg.size ≤ 200) (hbs : ∀ b, b ∈ bs → b.ok) (hn2 : rs.length ≤ 50) (hm2 : bs.length ≤ 50) (hL : s.size ≤ 2147483700)
    (hl : s.data.toList = hdrB (rs.map cidB) 1 ++ (secs bs ++ (0 :: t))) (hE : Eof w) (z : Bool) (hz : z = false) :
    Calls Tryz.prog 9 #[.string s, .agg (zOpt z)] w fun e w' => Off [] w w' ∧
      e = .returned (.tuple #[.string ⟨#[]⟩, .bool false]) := by
  obtain ⟨C, hC⟩ : ∃ C, grownCap (w.alloc (.cells #[.bool z, .bool false, .bool false, .bool false, .bool false, .bool false, .int .u64 0, .int .u64 0, .int .u64 0, .int .u64 0, .int .u64 0, .int .u64 0] 36)).drew s.size 0 5 = C := ⟨_, rfl⟩
  have hCs : s.size ≤ C := by rw [← hC]; exact grownCap_ge _ _ _ _
  have hcv := run_bytes_of_string (P := Tryz.prog) (w.alloc (.cells #[.bool z, .bool false, .bool false, .bool false, .bool false, .bool false, .int .u64 0, .int .u64 0, .int .u64 0, .int .u64 0, .int .u64 0, .int .u64 0] 36)).drew 9 32 5 s Tryz.underlying9 Tryz.underlying32 Tryz.underlying5
  rw [hC] at hcv
  have hseg : Seg ((w.alloc (.cells #[.bool z, .bool false, .bool false, .bool false, .bool false, .bool false, .int .u64 0, .int .u64 0, .int .u64 0, .int .u64 0, .int .u64 0, .int .u64 0] 36)).alloc (.cells (bytesRow s C) 5 ((bytesRow s C).size, (bytesRow s C).size + 1))) (w.heap.size + 1) 0 s.data.toList := by
    have h := seg_of_string (w.alloc (.cells #[.bool z, .bool false, .bool false, .bool false, .bool false, .bool false, .int .u64 0, .int .u64 0, .int .u64 0, .int .u64 0, .int .u64 0, .int .u64 0] 36)) s C 5 ((bytesRow s C).size, (bytesRow s C).size + 1)
    have e : (w.alloc (.cells #[.bool z, .bool false, .bool false, .bool false, .bool false, .bool false, .int .u64 0, .int .u64 0, .int .u64 0, .int .u64 0, .int .u64 0, .int .u64 0] 36)).heap.size = w.heap.size + 1 := by simp
    rwa [e] at h
  have HSG := Lib.hid hseg
  have HE := Lib.hid (show Eof ((w.alloc (.cells #[.bool z, .bool false, .bool false, .bool false, .bool false, .bool false, .int .u64 0, .int .u64 0, .int .u64 0, .int .u64 0, .int .u64 0, .int .u64 0] 36)).alloc (.cells (bytesRow s C) 5 ((bytesRow s C).size, (bytesRow s C).size + 1))) from hE.off (S := []) (((Off.refl [] w).alloc _).alloc _) (by simp))
  obtain ⟨es, hes⟩ : ∃ es, es = genE (hdrB (rs.map cidB) 1).length bs := ⟨_, rfl⟩
  have hsl : s.data.toList.length = s.size := by simp
  have HX := Lib.hid (fun (R b g p1 p2 p3 p4 p5 p6 p7 p8 : Nat) W (k1 : RAt R b C s.data.toList 0 W) (k4 : Eof W) (k5 : 0 < R) (k6 : OptsZ z W g p1 p2 p3 p4 p5 p6 p7 p8) => generateIndex_z z rs bs t s.data.toList g p1 p2 p3 p4 p5 p6 p7 p8 R b C W hrs hbs hn2 hm2 k6 k1 hl k4 k5)
  rw [← hes] at HX
  have HWE := Lib.hid (written_err 0)
  have hEl : 0 < w.heap.size := by obtain ⟨q, hq⟩ := hE; exact World.block_lt_of_cell? _ _ hq
  have HSL := Lib.hid hsl
  have HZ := Lib.hid hz
  clear hseg hE hl hC hrs hbs hn2 hm2 hes hsl hz
  have hb := Blk.new w 36 (zOpt z)
  have HB := Lib.hid hb
  unfold zOpt
  clear hb
  go_enter Tryz.func9, Tryz.ntmps9
  go_wp2_with fail
  go_region_held (fun w' => Blk w' w.heap.size 36 (zOpt z) ∧ w'.cell? ⟨w.heap.size, 0, none⟩ = some (.bool z) ∧ w'.cell? ⟨w.heap.size, 1, none⟩ = some (.bool false) ∧ w'.cell? ⟨w.heap.size, 2, none⟩ = some (.bool false) ∧ w'.cell? ⟨w.heap.size, 3, none⟩ = some (.bool false) ∧ w'.cell? ⟨w.heap.size, 4, none⟩ = some (.bool false) ∧ w'.cell? ⟨w.heap.size, 5, none⟩ = some (.bool false) ∧ w'.cell? ⟨w.heap.size, 6, none⟩ = some (.int .u64 0) ∧ w'.cell? ⟨w.heap.size, 7, none⟩ = some (.int .u64 0) ∧ w'.cell? ⟨w.heap.size, 8, none⟩ = some (.int .u64 0) ∧ w'.cell? ⟨w.heap.size, 9, none⟩ = some (.int .u64 0) ∧ w'.cell? ⟨w.heap.size, 10, none⟩ = some (.int .u64 0) ∧ w'.cell? ⟨w.heap.size, 11, none⟩ = some (.int .u64 0)) (first | (exact ⟨HB.out, (HB.out).cell 0, (HB.out).cell 1, (HB.out).cell 2, (HB.out).cell 3, (HB.out).cell 4, (HB.out).cell 5, (HB.out).cell 6, (HB.out).cell 7, (HB.out).cell 8, (HB.out).cell 9, (HB.out).cell 10, (HB.out).cell 11⟩) | (exact ⟨HB.out.alloc _, (HB.out.alloc _).cell 0, (HB.out.alloc _).cell 1, (HB.out.alloc _).cell 2, (HB.out.alloc _).cell 3, (HB.out.alloc _).cell 4, (HB.out.alloc _).cell 5, (HB.out.alloc _).cell 6, (HB.out.alloc _).cell 7, (HB.out.alloc _).cell 8, (HB.out.alloc _).cell 9, (HB.out.alloc _).cell 10, (HB.out.alloc _).cell 11⟩) | (exact ⟨K1.out, (K1.out).cell 0, (K1.out).cell 1, (K1.out).cell 2, (K1.out).cell 3, (K1.out).cell 4, (K1.out).cell 5, (K1.out).cell 6, (K1.out).cell 7, (K1.out).cell 8, (K1.out).cell 9, (K1.out).cell 10, (K1.out).cell 11⟩) | (exact ⟨K2.out, (K2.out).cell 0, (K2.out).cell 1, (K2.out).cell 2, (K2.out).cell 3, (K2.out).cell 4, (K2.out).cell 5, (K2.out).cell 6, (K2.out).cell 7, (K2.out).cell 8, (K2.out).cell 9, (K2.out).cell 10, (K2.out).cell 11⟩) | (exact ⟨K3.out, (K3.out).cell 0, (K3.out).cell 1, (K3.out).cell 2, (K3.out).cell 3, (K3.out).cell 4, (K3.out).cell 5, (K3.out).cell 6, (K3.out).cell 7, (K3.out).cell 8, (K3.out).cell 9, (K3.out).cell 10, (K3.out).cell 11⟩)) (first
    | (go_at_call 18; refine (newBr_ok _ _ _ _).mono ?_; rintro e w1 ⟨rfl, r1, o1, z1⟩; have k1 : Blk w1 w.heap.size 36 (zOpt z) := o1.blk (HB.out.alloc _) (by simp); have s1 := o1.segH HSG.out rfl (by simp); have S1 := Lib.hid s1; clear s1; have E1 := Lib.hid (Eof.offH o1 HE.out rfl (by simp)); have RR1 := Lib.hid (Blk.at (g' := w.heap.size + 1 + 1) r1 (by simp [World.drew])); have K1 := Lib.hid k1; have R1 := Lib.hid r1; have O1 := Lib.hid o1; have Z1 := Lib.hid z1; clear k1 r1 o1 z1)
    | (go_at_call 19; refine (options_z z _).mono ?_; rintro e w2 ⟨g, p1, p2, p3, p4, p5, p6, p7, p8, rfl, oa, o2⟩; have k2 := o2.blk K1.out (by simp); have K2 := Lib.hid k2; have OA := Lib.hid oa; have O2 := Lib.hid o2; have HV := Lib.hid (HX.out (w.heap.size + 1 + 1) (w.heap.size + 1) g p1 p2 p3 p4 p5 p6 p7 p8 w2 ⟨⟨-1, by rw [HSL.out]; exact (show RdC w2 (w.heap.size + 1 + 1) (w.heap.size + 1) s.size C 0 (-1) from o2.blk RR1.out (by simp))⟩, o2.seg S1.out (by simp), by omega, by rw [HSL.out]; exact hL, by rw [HSL.out]; exact hCs⟩ (E1.out.off o2 (by simp)) (by omega) oa); clear k2 oa o2)
    | (go_at_call 17; refine HV.out.mono ?_; rintro e w3 ⟨o3, _, hT⟩; obtain ⟨ae, rfl⟩ := hT HZ.out; have k3 := o3.blk K2.out (by simp; omega); have K3 := Lib.hid k3; have O3 := Lib.hid o3; clear hT; clear k3 o3))
  have hO : Off [] w w3 := (((((((Off.refl [] w).alloc (.cells #[.bool z, .bool false, .bool false, .bool false, .bool false, .bool false, .int .u64 0, .int .u64 0, .int .u64 0, .int .u64 0, .int .u64 0, .int .u64 0] 36)).alloc (.cells (bytesRow s C) 5 ((bytesRow s C).size, (bytesRow s C).size + 1)))).next O1.out ⟨rfl, rfl, rfl, rfl⟩ (by simp)).then O2.out (by simp)).then O3.out (fun x h => by simp at h; right; omega))
  have HO := Lib.hid hO
  clear hO
  clear HSL
  go_wp2_with (go_at_call 20; refine (HWE.out _ _).mono ?_; rintro e w4 ⟨rfl, rfl⟩)
  go_ret2
  exact ⟨HO.out, rfl⟩
end Go.Proofs.YtkdbjocchponfaaGreatDoor
namespace Go.Proofs.YtkdbjocchponfaaGreatDoor
open Go.RowKit

def fitC (es : List Ent) : Bool := decide (es.length ≤ 2147483647) && es.all fun e => decide (e.dg.size ≤ 2147483647)
def fitK (bs : List Bk) : Bool := decide (bs.length ≤ 2147483647) && bs.all fun e => (decide (e.1.dg.size ≤ 2147483647) && decide (e.2.size ≤ 2147483647))

theorem zzFits1_off (ver codec code : Nat) (dg : ByteArray) (w : World) :
    Calls Tryz.prog 23 #[.agg #[.int .u64 (ver : Int), .int .u64 (codec : Int), .int .u64 (code : Int), .string dg]] w fun e w' => e = .returned (.bool (decide (dg.size ≤ 2147483647))) ∧ Off [] w w' := by
  refine (zzFits1_any ver codec code dg w).mono ?_
  rintro e w1 ⟨h, hb⟩
  exact ⟨h, Off.ofBelow (S := []) hb⟩

set_option maxRecDepth 100000 in
set_option maxHeartbeats 4000000 in
theorem zzFits2_any (es : List Ent) (A : Option Addr) (ib io c n : Nat) (w : World) (hn : es.length = n) (hat : CidsAt w A ib io es) :
    Calls Tryz.prog 11 #[.slice A n c] w fun r w' => r = .returned (.bool (fitC es)) ∧ Off [] w w' := by
  obtain ⟨F, hF⟩ : ∃ F, F = fitC es := ⟨_, rfl⟩
  rw [← hF]
  have HF := Lib.hid hF
  clear hF
  have HAT := Lib.hid hat
  have HN := Lib.hid hn
  clear hat hn
  by_cases hbig : n ≤ 2147483647
  · go_enter Tryz.func11, Tryz.ntmps11
    go_wp2_with fail
    go_loopg [10] n (fun kx s10 wr => ∃ j : Nat, s10 = .int .i64 (j : Int) ∧ j ≤ n ∧ n - j ≤ kx ∧ Hid (Off [] w wr) ∧ Hid (∀ e, e ∈ es.take j → decide (e.dg.size ≤ 2147483647) = true))
    case atStart => exact ⟨0, rfl, Nat.zero_le _, by omega, Lib.hid (Off.refl [] w), Lib.hid (fun e he => by simp at he)⟩
    case round =>
      rename World => wr
      obtain ⟨j, rfl, hjn, hkx, HO, HA⟩ := hrel
      by_cases hlt : j < n
      · have hie : j < es.length := by have := HN.out; omega
        have hat := HAT.out.off HO.out (by simp)
        obtain ⟨hA, hib⟩ := hat.at_ (by omega)
        obtain ⟨c0, c1, c2, c3⟩ := hat.cells j hie
        obtain ⟨ent, hent⟩ : ∃ ent, ent = es[j] := ⟨_, rfl⟩
        rw [← hent] at c0 c1 c2 c3
        have HZ := Lib.hid fun W => zzFits1_off ent.ver ent.codec ent.code ent.dg W
        have HM := Lib.hid (show ent ∈ es by rw [hent]; exact List.getElem_mem _)
        have HTK := Lib.hid (show es.take (j + 1) = es.take j ++ [ent] by rw [List.take_succ_eq_append_getElem hie, hent])
        obtain ⟨B, hB⟩ : ∃ B, B = decide (ent.dg.size ≤ 2147483647) := ⟨_, rfl⟩
        rw [← hB] at HZ
        have HB0 := Lib.hid hB
        clear hent hat hB
        subst hA
        cases B
        · go_wp2_with (go_at_call 23; refine (HZ.out _).mono ?_; rintro r w1 ⟨rfl, hb⟩; have HB := Lib.hid (Off.then (Off.alloc HO.out _) hb (fun x hx => by simp at hx)); clear hb)
          go_ret
          refine ⟨?_, HB.out⟩
          have : fitC es = false := by
            unfold fitC
            rw [Bool.and_eq_false_iff]
            exact Or.inr (List.all_eq_false.2 ⟨ent, HM.out, by rw [← HB0.out]; decide⟩)
          rw [HF.out, this]
          rfl
        · go_wp2_with (go_at_call 23; refine (HZ.out _).mono ?_; rintro r w1 ⟨rfl, hb⟩; have HB := Lib.hid (Off.then (Off.alloc HO.out _) hb (fun x hx => by simp at hx)); clear hb)
          go_roundg (n - (j + 1))
          case measure => omega
          case rel =>
            refine ⟨j + 1, rfl, by omega, by omega, HB, Lib.hid fun x hx => ?_⟩
            rw [HTK.out] at hx
            rcases List.mem_append.1 hx with hx | hx
            · exact HA.out x hx
            · rw [List.mem_singleton.1 hx]; exact HB0.out.symm
      · obtain rfl : j = n := by omega
        go_wp2_with fail
        go_ret
        refine ⟨?_, HO.out⟩
        have hl := HN.out
        have : fitC es = true := by
          unfold fitC
          rw [Bool.and_eq_true, decide_eq_true_eq]
          refine ⟨by omega, List.all_eq_true.2 fun e he => HA.out e ?_⟩
          rw [List.take_of_length_le (by omega)]
          exact he
        rw [HF.out, this]
        rfl
  · go_enter Tryz.func11, Tryz.ntmps11
    go_wp2_with fail
    go_ret
    refine ⟨?_, Off.refl [] w⟩
    have hl := HN.out
    have : fitC es = false := by
      unfold fitC
      rw [Bool.and_eq_false_iff]
      exact Or.inl (decide_eq_false (by omega))
    rw [HF.out, this]
    rfl

set_option maxRecDepth 100000 in
set_option maxHeartbeats 2000000 in
theorem zzFits6_any (b : Bk) (w : World) :
    Calls Tryz.prog 24 #[.agg #[.int .u64 (b.1.ver : Int), .int .u64 (b.1.codec : Int), .int .u64 (b.1.code : Int), .string b.1.dg, .string b.2]] w fun r w' => r = .returned (.bool (decide (b.1.dg.size ≤ 2147483647) && decide (b.2.size ≤ 2147483647))) ∧ Off [] w w' := by
  have HZ := Lib.hid fun W => zzFits1_off b.1.ver b.1.codec b.1.code b.1.dg W
  have hA : Off [] w (w.alloc (.cells #[.int .u64 (b.1.ver : Int), .int .u64 (b.1.codec : Int), .int .u64 (b.1.code : Int), .string b.1.dg, .string b.2] 45)) := (Off.refl [] w).alloc _
  have hB := Blk.new w 45 #[.int .u64 (b.1.ver : Int), .int .u64 (b.1.codec : Int), .int .u64 (b.1.code : Int), .string b.1.dg, .string b.2]
  have HB := Lib.hid hB
  have HA := Lib.hid hA
  clear hA hB
  obtain ⟨B, hB⟩ : ∃ B, B = decide (b.1.dg.size ≤ 2147483647) := ⟨_, rfl⟩
  rw [← hB] at HZ ⊢
  clear hB
  by_cases hd : b.2.size ≤ 2147483647
  · have hd2 : ¬ (2147483647 < (b.2.size : Int)) := by omega
    rw [decide_eq_true hd, Bool.and_true]
    clear hd
    cases B
    all_goals
      go_enter Tryz.func24, Tryz.ntmps24
      go_wp2_with (go_at_call 23; refine (HZ.out _).mono ?_; rintro r w1 ⟨rfl, hb⟩; have c4 := (hb.blk HB.out (by simp)).cell 4; simp at c4; have HO := Lib.hid (HA.out.then hb (fun x hx => by simp at hx)); clear hb)
      go_ret
      exact ⟨rfl, HO.out⟩
  · have hd2 : (2147483647 : Int) < (b.2.size : Int) := by omega
    rw [decide_eq_false hd, Bool.and_false]
    clear hd
    cases B
    all_goals
      go_enter Tryz.func24, Tryz.ntmps24
      go_wp2_with (go_at_call 23; refine (HZ.out _).mono ?_; rintro r w1 ⟨rfl, hb⟩; have c4 := (hb.blk HB.out (by simp)).cell 4; simp at c4; have HO := Lib.hid (HA.out.then hb (fun x hx => by simp at hx)); clear hb)
      go_ret
      exact ⟨rfl, HO.out⟩

set_option maxRecDepth 100000 in
set_option maxHeartbeats 4000000 in
theorem zzFits5_any (es : List Bk) (A : Option Addr) (ib io c n : Nat) (w : World) (hn : es.length = n) (hat : BlosAt w A ib io es) :
    Calls Tryz.prog 12 #[.slice A n c] w fun r w' => r = .returned (.bool (fitK es)) ∧ Off [] w w' := by
  obtain ⟨F, hF⟩ : ∃ F, F = fitK es := ⟨_, rfl⟩
  rw [← hF]
  have HF := Lib.hid hF
  clear hF
  have HAT := Lib.hid hat
  have HN := Lib.hid hn
  clear hat hn
  by_cases hbig : n ≤ 2147483647
  · go_enter Tryz.func12, Tryz.ntmps12
    go_wp2_with fail
    go_loopg [10] n (fun kx s10 wr => ∃ j : Nat, s10 = .int .i64 (j : Int) ∧ j ≤ n ∧ n - j ≤ kx ∧ Hid (Off [] w wr) ∧ Hid (∀ e, e ∈ es.take j → (decide (e.1.dg.size ≤ 2147483647) && decide (e.2.size ≤ 2147483647)) = true))
    case atStart => exact ⟨0, rfl, Nat.zero_le _, by omega, Lib.hid (Off.refl [] w), Lib.hid (fun e he => by simp at he)⟩
    case round =>
      rename World => wr
      obtain ⟨j, rfl, hjn, hkx, HO, HA⟩ := hrel
      by_cases hlt : j < n
      · have hie : j < es.length := by have := HN.out; omega
        have hat := HAT.out.off HO.out (by simp)
        obtain ⟨hA, hib⟩ := hat.at_ (by omega)
        obtain ⟨c0, c1, c2, c3, c4⟩ := hat.cells j hie
        obtain ⟨ent, hent⟩ : ∃ ent, ent = es[j] := ⟨_, rfl⟩
        rw [← hent] at c0 c1 c2 c3 c4
        have HZ := Lib.hid fun W => zzFits6_any ent W
        have HM := Lib.hid (show ent ∈ es by rw [hent]; exact List.getElem_mem _)
        have HTK := Lib.hid (show es.take (j + 1) = es.take j ++ [ent] by rw [List.take_succ_eq_append_getElem hie, hent])
        obtain ⟨B, hB⟩ : ∃ B, B = (decide (ent.1.dg.size ≤ 2147483647) && decide (ent.2.size ≤ 2147483647)) := ⟨_, rfl⟩
        rw [← hB] at HZ
        have HB0 := Lib.hid hB
        clear hent hat hB
        subst hA
        cases B
        · go_wp2_with (go_at_call 24; refine (HZ.out _).mono ?_; rintro r w1 ⟨rfl, hb⟩; have HB := Lib.hid (Off.then (Off.alloc HO.out _) hb (fun x hx => by simp at hx)); clear hb)
          go_ret
          refine ⟨?_, HB.out⟩
          have : fitK es = false := by
            unfold fitK
            rw [Bool.and_eq_false_iff]
            exact Or.inr (List.all_eq_false.2 ⟨ent, HM.out, by rw [← HB0.out]; decide⟩)
          rw [HF.out, this]
          rfl
        · go_wp2_with (go_at_call 24; refine (HZ.out _).mono ?_; rintro r w1 ⟨rfl, hb⟩; have HB := Lib.hid (Off.then (Off.alloc HO.out _) hb (fun x hx => by simp at hx)); clear hb)
          go_roundg (n - (j + 1))
          case measure => omega
          case rel =>
            refine ⟨j + 1, rfl, by omega, by omega, HB, Lib.hid fun x hx => ?_⟩
            rw [HTK.out] at hx
            rcases List.mem_append.1 hx with hx | hx
            · exact HA.out x hx
            · rw [List.mem_singleton.1 hx]; exact HB0.out.symm
      · obtain rfl : j = n := by omega
        go_wp2_with fail
        go_ret
        refine ⟨?_, HO.out⟩
        have hl := HN.out
        have : fitK es = true := by
          unfold fitK
          rw [Bool.and_eq_true, decide_eq_true_eq]
          refine ⟨by omega, List.all_eq_true.2 fun e he => HA.out e ?_⟩
          rw [List.take_of_length_le (by omega)]
          exact he
        rw [HF.out, this]
        rfl
  · go_enter Tryz.func12, Tryz.ntmps12
    go_wp2_with fail
    go_ret
    refine ⟨?_, Off.refl [] w⟩
    have hl := HN.out
    have : fitK es = false := by
      unfold fitK
      rw [Bool.and_eq_false_iff]
      exact Or.inl (decide_eq_false (by omega))
    rw [HF.out, this]
    rfl

set_option maxRecDepth 100000 in
set_option maxHeartbeats 2000000 in
theorem zzFits4_any (rs : List Ent) (bs : List Bk) (A B : Option Addr) (ib io jb jo c c2 n m : Nat) (w : World) (hn : rs.length = n) (hm : bs.length = m) (hat : CidsAt w A ib io rs) (hbt : BlosAt w B jb jo bs) :
    Calls Tryz.prog 4 #[.agg #[.slice A n c, .slice B m c2]] w fun r w' => r = .returned (.bool (fitC rs && fitK bs)) ∧ Off [] w w' := by
  have hA : Off [] w (w.alloc (.cells #[.slice A n c, .slice B m c2] 25)) := (Off.refl [] w).alloc _
  have hB := Blk.new w 25 #[.slice A n c, .slice B m c2]
  have H2 := Lib.hid fun W (h : Off [] w W) => zzFits2_any rs A ib io c n W hn (hat.off h (by simp))
  have H5 := Lib.hid fun W (h : Off [] w W) => zzFits5_any bs B jb jo c2 m W hm (hbt.off h (by simp))
  have HB := Lib.hid hB
  have HA := Lib.hid hA
  clear hA hB hat hbt hn hm
  obtain ⟨F, hF⟩ : ∃ F, F = fitC rs := ⟨_, rfl⟩
  obtain ⟨G, hG⟩ : ∃ G, G = fitK bs := ⟨_, rfl⟩
  rw [← hF] at H2 ⊢
  rw [← hG] at H5 ⊢
  clear hF hG
  cases F with
  | false =>
    go_enter Tryz.func4, Tryz.ntmps4
    go_wp2_with (go_at_call 11; refine (H2.out _ HA.out).mono ?_; rintro r w1 ⟨rfl, hb⟩; have HO := Lib.hid (HA.out.then hb (fun x hx => by simp at hx)); clear hb)
    go_ret
    exact ⟨rfl, HO.out⟩
  | true =>
    cases G
    all_goals
      go_enter Tryz.func4, Tryz.ntmps4
      go_wp2_with (first
        | (go_at_call 11; refine (H2.out _ HA.out).mono ?_; rintro r w1 ⟨rfl, hb⟩; have c1 := (hb.blk HB.out (by simp)).cell 1; simp at c1; have HO := Lib.hid (HA.out.then hb (fun x hx => by simp at hx)); clear hb)
        | (go_at_call 12; refine (H5.out _ HO.out).mono ?_; rintro r w2 ⟨rfl, hb⟩; have HO2 := Lib.hid (HO.out.then hb (fun x hx => by simp at hx)); clear hb))
      go_ret
      exact ⟨rfl, HO2.out⟩
end Go.Proofs.YtkdbjocchponfaaGreatDoor
