/-
  impl.WrWrap over a file of version 1 in memory.
  impl.WrWrap over a file of version 1 in memory, where the codec is asked for.
  (No condition beyond those that each theorem states.)
-/
import Derived.Test.YthmhnknkidkdlaaGreatDoorB43
namespace Go.Proofs.YthmhnknkidkdlaaGreatDoor
open Go.RowKit

theorem seg_conv (W : World) (s : ByteArray) (C : Nat) (t : TypeId) (fr : Nat × Nat) : Seg (W.alloc (.cells (bytesRow s C) t fr)) W.heap.size 0 s.data.toList := by
  have hh := heap_alloc_new W (.cells (bytesRow s C) t fr)
  rw [← bytesRow_list] at hh
  have hs := Seg.of_bytes hh
  rw [bytesRow_list] at hs
  exact hs
theorem BufW.is {b lo : Nat} {l : List UInt8} {w : World} (h : BufW b lo l w) : Lib.IsBuffer 51 5 0 b (Lib.byteCells l) w := by
  rcases h with ⟨rfl, h⟩ | ⟨_, _, _, _, h⟩
  · exact h.is
  · exact h.is

end Go.Proofs.YthmhnknkidkdlaaGreatDoor
namespace Go.Proofs.YthmhnknkidkdlaaGreatDoor
open Go.RowKit

set_option maxRecDepth 100000 in
set_option maxHeartbeats 4000000 in
theorem wrWrap_k {kd ty fL : Nat} {Emp : Nat → Nat → World → Prop} {Full : Nat → Nat → Nat → List Ent → World → Prop} (KN : Knd kd ty fL Emp Full) (hk0 : 0 < kd) (hk1 : kd < 9223372036854775808) (rs : List Ent) (bs : List Bk) (l : List UInt8) (s : ByteArray) (hs : s.data.toList = l) (w : World) (hrs : ∀ e, e ∈ rs → e.ok ∧ e.dg.size ≤ 200) (hbs : ∀ b, b ∈ bs → b.ok) (hn2 : rs.length ≤ 50) (hm2 : bs.length ≤ 50) (hl : l = hdrB (rs.map cidB) 1 ++ secs bs) (hll : l.length ≤ 10000000)
    (qe : Addr) (hE : EofA qe w) :
    Calls Tryz.prog 7 #[.string s, .agg (kOpt kd)] w fun e w' => ∃ X, (IdxF kd (genE (hdrB (rs.map cidB) 1).length bs) X ∧ X.length ≤ 26030614) ∧ e = .returned (.tuple #[.string (str (pragB ++ headB 0 0 51 l.length (51 + l.length) ++ l ++ X)), .bool true]) ∧ Off [] w w' := by
  obtain ⟨C, hC⟩ : ∃ C, grownCap (((w.alloc (.cells #[.bool false, .bool false, .bool false, .bool false, .bool false, .bool false, .int .u64 0, .int .u64 0, .int .u64 (kd : Int), .int .u64 0, .int .u64 0, .int .u64 0] 32)).alloc (.cells #[.slice none 0 0, .int .i64 0, .int .i8 0] 51))).drew s.size 0 5 = C := ⟨_, rfl⟩
  have hCs : s.size ≤ C := by rw [← hC]; exact grownCap_ge _ _ _ _
  have hcv := run_bytes_of_string (P := Tryz.prog) (((w.alloc (.cells #[.bool false, .bool false, .bool false, .bool false, .bool false, .bool false, .int .u64 0, .int .u64 0, .int .u64 (kd : Int), .int .u64 0, .int .u64 0, .int .u64 0] 32)).alloc (.cells #[.slice none 0 0, .int .i64 0, .int .i8 0] 51))).drew 9 47 5 s Tryz.underlying9 Tryz.underlying47 Tryz.underlying5
  rw [hC] at hcv
  have hof : Off [] w ((((w.alloc (.cells #[.bool false, .bool false, .bool false, .bool false, .bool false, .bool false, .int .u64 0, .int .u64 0, .int .u64 (kd : Int), .int .u64 0, .int .u64 0, .int .u64 0] 32)).alloc (.cells #[.slice none 0 0, .int .i64 0, .int .i8 0] 51))).alloc (.cells (bytesRow s C) 5 ((bytesRow s C).size, (bytesRow s C).size + 1))) := (((Off.refl [] w).alloc _).alloc _).alloc _
  have hbo : Blk (((w.alloc (.cells #[.bool false, .bool false, .bool false, .bool false, .bool false, .bool false, .int .u64 0, .int .u64 0, .int .u64 (kd : Int), .int .u64 0, .int .u64 0, .int .u64 0] 32)).alloc (.cells #[.slice none 0 0, .int .i64 0, .int .i8 0] 51))) w.heap.size 32 (kOpt kd) := (Blk.new w 32 (kOpt kd)).alloc _
  have hsz : (((w.alloc (.cells #[.bool false, .bool false, .bool false, .bool false, .bool false, .bool false, .int .u64 0, .int .u64 0, .int .u64 (kd : Int), .int .u64 0, .int .u64 0, .int .u64 0] 32)).alloc (.cells #[.slice none 0 0, .int .i64 0, .int .i8 0] 51))).heap.size = w.heap.size + 2 := by simp
  have hbn : BufN (w.heap.size + 1) ((((w.alloc (.cells #[.bool false, .bool false, .bool false, .bool false, .bool false, .bool false, .int .u64 0, .int .u64 0, .int .u64 (kd : Int), .int .u64 0, .int .u64 0, .int .u64 0] 32)).alloc (.cells #[.slice none 0 0, .int .i64 0, .int .i8 0] 51))).alloc (.cells (bytesRow s C) 5 ((bytesRow s C).size, (bytesRow s C).size + 1))) := ⟨0, (Blk.new' (w.alloc (.cells #[.bool false, .bool false, .bool false, .bool false, .bool false, .bool false, .int .u64 0, .int .u64 0, .int .u64 (kd : Int), .int .u64 0, .int .u64 0, .int .u64 0] 32)) 51 #[.slice none 0 0, .int .i64 0, .int .i8 0] (g := w.heap.size + 1) (by simp)).alloc _⟩
  have hse : Seg ((((w.alloc (.cells #[.bool false, .bool false, .bool false, .bool false, .bool false, .bool false, .int .u64 0, .int .u64 0, .int .u64 (kd : Int), .int .u64 0, .int .u64 0, .int .u64 0] 32)).alloc (.cells #[.slice none 0 0, .int .i64 0, .int .i8 0] 51))).alloc (.cells (bytesRow s C) 5 ((bytesRow s C).size, (bytesRow s C).size + 1))) (w.heap.size + 2) 0 l := by
    have h1 := seg_conv (((w.alloc (.cells #[.bool false, .bool false, .bool false, .bool false, .bool false, .bool false, .int .u64 0, .int .u64 0, .int .u64 (kd : Int), .int .u64 0, .int .u64 0, .int .u64 0] 32)).alloc (.cells #[.slice none 0 0, .int .i64 0, .int .i8 0] 51))) s C 5 ((bytesRow s C).size, (bytesRow s C).size + 1)
    rw [hsz, hs] at h1
    exact h1
  have hsl : s.data.toList.length = s.size := by simp
  rw [hs] at hsl
  have HX := Lib.hid (fun (g n8 c8 : Nat) W (k0 : w.heap.size + 4 ≤ W.heap.size) (k1 : BufN (w.heap.size + 1) W) (k2 : RAt (w.heap.size + 3) (w.heap.size + 2) C l 0 W) (k3 : EofA qe W) (k5 : 1 < w.heap.size) (k6 : OptV kd (.slice (some ⟨g, 0, none⟩) n8 c8) W) => wrapV1_k KN rs bs l g n8 c8 (w.heap.size + 3) (w.heap.size + 2) C (w.heap.size + 1) W hrs hbs hn2 hm2 k6 k2 (by omega) hl hll qe k3 (by omega) (by omega) k1 (by omega) (by omega))
  have hST := fun (W : World) (L : List UInt8) (k : BufW (w.heap.size + 1) 0 L W) => Tryz.Buffer_String 0 (w.heap.size + 1) L W k.is
  have HST := Lib.hid hST
  have hEl : 1 < w.heap.size := World.block_lt_of_cell? _ _ hE
  have HE := Lib.hid (hE.off hof (by simp))
  have HOF := Lib.hid hof
  have HB := Lib.hid hbo
  have HSE := Lib.hid hse
  have HBN := Lib.hid hbn
  have HSZ := Lib.hid hsz
  have HSL := Lib.hid hsl
  clear KN hE hof hbo hse hbn hsz hC hsl hs hrs hbs hn2 hm2 hl hST
  unfold kOpt
  go_enter Tryz.func7, Tryz.ntmps7
  go_wp2_with fail
  go_region_held (fun w' => Blk w' w.heap.size 32 (kOpt kd) ∧ w'.cell? ⟨w.heap.size, 0, none⟩ = some (.bool false) ∧ w'.cell? ⟨w.heap.size, 1, none⟩ = some (.bool false) ∧ w'.cell? ⟨w.heap.size, 2, none⟩ = some (.bool false) ∧ w'.cell? ⟨w.heap.size, 3, none⟩ = some (.bool false) ∧ w'.cell? ⟨w.heap.size, 4, none⟩ = some (.bool false) ∧ w'.cell? ⟨w.heap.size, 5, none⟩ = some (.bool false) ∧ w'.cell? ⟨w.heap.size, 6, none⟩ = some (.int .u64 0) ∧ w'.cell? ⟨w.heap.size, 7, none⟩ = some (.int .u64 0) ∧ w'.cell? ⟨w.heap.size, 8, none⟩ = some (.int .u64 (kd : Int)) ∧ w'.cell? ⟨w.heap.size, 9, none⟩ = some (.int .u64 0) ∧ w'.cell? ⟨w.heap.size, 10, none⟩ = some (.int .u64 0) ∧ w'.cell? ⟨w.heap.size, 11, none⟩ = some (.int .u64 0)) (first | exact ⟨HB.out, (HB.out).cell 0, (HB.out).cell 1, (HB.out).cell 2, (HB.out).cell 3, (HB.out).cell 4, (HB.out).cell 5, (HB.out).cell 6, (HB.out).cell 7, (HB.out).cell 8, (HB.out).cell 9, (HB.out).cell 10, (HB.out).cell 11⟩ | exact ⟨HB.out.alloc _, (HB.out.alloc _).cell 0, (HB.out.alloc _).cell 1, (HB.out.alloc _).cell 2, (HB.out.alloc _).cell 3, (HB.out.alloc _).cell 4, (HB.out.alloc _).cell 5, (HB.out.alloc _).cell 6, (HB.out.alloc _).cell 7, (HB.out.alloc _).cell 8, (HB.out.alloc _).cell 9, (HB.out.alloc _).cell 10, (HB.out.alloc _).cell 11⟩ | exact ⟨K1.out, (K1.out).cell 0, (K1.out).cell 1, (K1.out).cell 2, (K1.out).cell 3, (K1.out).cell 4, (K1.out).cell 5, (K1.out).cell 6, (K1.out).cell 7, (K1.out).cell 8, (K1.out).cell 9, (K1.out).cell 10, (K1.out).cell 11⟩ | exact ⟨K2.out, (K2.out).cell 0, (K2.out).cell 1, (K2.out).cell 2, (K2.out).cell 3, (K2.out).cell 4, (K2.out).cell 5, (K2.out).cell 6, (K2.out).cell 7, (K2.out).cell 8, (K2.out).cell 9, (K2.out).cell 10, (K2.out).cell 11⟩ | exact ⟨K3.out, (K3.out).cell 0, (K3.out).cell 1, (K3.out).cell 2, (K3.out).cell 3, (K3.out).cell 4, (K3.out).cell 5, (K3.out).cell 6, (K3.out).cell 7, (K3.out).cell 8, (K3.out).cell 9, (K3.out).cell 10, (K3.out).cell 11⟩) (first
    | (go_at_call 15; refine (newBr_ok _ _ _ _).mono ?_; rintro e w1 ⟨rfl, r1, o1, z1⟩; have P1 : Off [] ((((w.alloc (.cells #[.bool false, .bool false, .bool false, .bool false, .bool false, .bool false, .int .u64 0, .int .u64 0, .int .u64 (kd : Int), .int .u64 0, .int .u64 0, .int .u64 0] 32)).alloc (.cells #[.slice none 0 0, .int .i64 0, .int .i8 0] 51))).alloc (.cells (bytesRow s C) 5 ((bytesRow s C).size, (bytesRow s C).size + 1))) w1 := (Off.refl [] _).next o1 ⟨rfl, rfl, rfl, rfl⟩ (by simp); have k1 : Blk w1 w.heap.size 32 (kOpt kd) := P1.blk (HB.out.alloc _) (by simp); have K1 := Lib.hid k1; have HR1 := Lib.hid (Blk.at (g' := w.heap.size + 3) r1 (by simp [World.drew])); have HM1 : Hid (BufN (w.heap.size + 1) w1) := Lib.hid (by obtain ⟨lr, hq⟩ := HBN.out; exact ⟨lr, P1.blk hq (by simp)⟩); have HE1 := Lib.hid (HE.out.off P1 (by simp)); have HS1 := Lib.hid (HSE.out.off P1 (by simp)); have HO1 := Lib.hid (HOF.out.then P1 (by simp)); clear k1 r1 o1 z1 P1)
    | (go_at_call 16; refine (options_k kd hk0 hk1 _).mono ?_; rintro e w2 ⟨g, p1, p2, p3, p4, p5, p6, p7, p8, p9, c8, sp8, rfl, oa, o2⟩; have k2 := o2.blk K1.out (by simp); have hr2 : RdC w2 (w.heap.size + 3) (w.heap.size + 2) s.size C 0 (-1) := o2.blk HR1.out (by simp); have HM2 : BufN (w.heap.size + 1) w2 := (by obtain ⟨lr, hq⟩ := HM1.out; exact ⟨lr, o2.blk hq (by simp)⟩); have HE2 := HE1.out.off o2 (by simp); have HS2 := HS1.out.off o2 (by simp); have HO2 := Lib.hid (HO1.out.then o2 (by simp)); have hlt2 := Blk.lt hr2; have HV := Lib.hid (HX.out g 9 c8 w2 (by omega) HM2 ⟨⟨-1, by rw [HSL.out]; exact hr2⟩, HS2, by omega, by omega, by rw [HSL.out]; exact hCs⟩ HE2 hEl (optV_k kd hk0 g p1 p2 p3 p4 p5 p6 p7 p8 p9 c8 sp8 w2 oa)); have K2 := Lib.hid k2; clear k2 hr2 HM2 HE2 HS2 oa o2)
    | (go_at_call 14; refine HV.out.mono ?_; rintro e w3 ⟨rfl, X, hX, hw3, ho3⟩; have HXX := Lib.hid hX; have HS3 := Lib.hid (fun W (hD : Drew w3 W) => HST.out W _ ((hw3.mono (Nat.zero_le _)).off (Off.ofDrew (S := []) hD) (by simp) (fun x hx => by simp at hx))); have HO3 := Lib.hid (HO2.out.then ho3 (fun y hy => by simp at hy; right; omega)); have k3 : Blk w3 w.heap.size 32 (kOpt kd) := ho3.blk K2.out (ni2 (by omega) (by omega)); have K3 := Lib.hid k3; clear k3 hX hw3 ho3))
  go_wp2_with fail
  go_region_held3 (fun w' => True) (exact trivial) (first | (go_at_call 17; refine (HS3.out _ (by repeat' (first | exact Drew.refl _ | exact Drew.one _ | refine Drew.more ?_ 1))).mono ?_; rintro e w4 ⟨rfl, k, hk⟩; have HO4 : Hid (Off [] w w4) := Lib.hid (by rw [hk]; first | exact HO3.out.drewN k | exact HO3.out.drew.drewN k | exact (HO3.out.drewN _).drewN k); clear hk))
  all_goals go_wp2_with fail
  all_goals go_ret2
  all_goals exact ⟨X, HXX.out, rfl, HO4.out⟩
end Go.Proofs.YthmhnknkidkdlaaGreatDoor
