/-
  impl.options where the index's codec is asked for: nine settings.
  car.ApplyOptions over the nine settings.
  (No condition beyond those that each theorem states.)
-/
import Derived.Test.YthmhnknkidkdlaaGreatDoorB08
import Derived.Test.YthmhnknkidkdlaaGreatDoorB24
import Derived.Test.YthmhnknkidkdlaaGreatDoorB09
namespace Go.Proofs.YthmhnknkidkdlaaGreatDoor
open Go.RowKit

theorem optUseIndexCodec (v : Int) (w : World) :
    Calls Tryz.prog 41 #[.int .u64 v] w fun e w' => e = .returned (setting 67 w.heap.size) ∧ Blk w' w.heap.size 73 #[.int .u64 v] ∧ Off [] w w' ∧ w'.heap.size = w.heap.size + 1 := by
  have hmf := run_mf
  go_enter Tryz.func41, Tryz.ntmps41
  go_wp2_with fail
  go_ret
  exact ⟨rfl, Blk.new w _ _, (Off.refl [] w).alloc _, by simp⟩

theorem Tryz.infoOpt : (Tryz.prog.info? 99).map (fun i => (i.zero, i.size, i.bytes)) = some (some .nilFunc, 1, 8) := by kernel_rfl

/-- No options but the index's codec kd. -/
def kOpt (kd : Nat) : Array Value := #[.bool false, .bool false, .bool false, .bool false, .bool false, .bool false, .int .u64 0, .int .u64 0, .int .u64 (kd : Int), .int .u64 0, .int .u64 0, .int .u64 0]

/-- Block g holds the nine settings, each over its own box. -/
def OptsK (kd : Nat) (w : World) (g p1 p2 p3 p4 p5 p6 p7 p8 p9 : Nat) (sp : List Value) : Prop := Blk w g 99 ([setting 59 p1, setting 60 p2, setting 61 p3, setting 62 p4, setting 63 p5, setting 64 p6, setting 65 p7, setting 66 p8] ++ [setting 67 p9] ++ sp).toArray ∧ Blk w p1 4 #[.bool false] ∧ Blk w p2 4 #[.bool false] ∧ Blk w p3 4 #[.bool false] ∧ Blk w p4 4 #[.bool false] ∧ Blk w p5 4 #[.bool false] ∧ Blk w p6 4 #[.bool false] ∧ Blk w p7 30 #[.int .u64 0] ∧ Blk w p8 30 #[.int .u64 0] ∧ Blk w p9 73 #[.int .u64 (kd : Int)]

set_option maxRecDepth 100000 in
set_option maxHeartbeats 4000000 in
theorem options_k (kd : Nat) (hk0 : 0 < kd) (hk1 : kd < 9223372036854775808) (w : World) :
    Calls Tryz.prog 16 #[.agg (kOpt kd)] w fun e w' => ∃ g p1 p2 p3 p4 p5 p6 p7 p8 p9 cap sp, e = .returned (.slice (some ⟨g, 0, none⟩) 9 cap) ∧ OptsK kd w' g p1 p2 p3 p4 p5 p6 p7 p8 p9 sp ∧ Off [] w w' := by
  obtain ⟨i0, hi, hz0, hz1, hz2⟩ := info_parts Tryz.infoOpt
  have hkz : ((kd : Int) != 0) = true := bne_iff_ne.2 (by omega)
  have hb := Blk.new w 32 (kOpt kd)
  have HB := Lib.hid hb
  unfold kOpt
  clear hb
  go_enter Tryz.func16, Tryz.ntmps16
  go_wp2_with fail
  go_region_held3 (fun w' => Blk w' w.heap.size 32 (kOpt kd) ∧ w'.cell? ⟨w.heap.size, 0, none⟩ = some (.bool false) ∧ w'.cell? ⟨w.heap.size, 1, none⟩ = some (.bool false) ∧ w'.cell? ⟨w.heap.size, 2, none⟩ = some (.bool false) ∧ w'.cell? ⟨w.heap.size, 3, none⟩ = some (.bool false) ∧ w'.cell? ⟨w.heap.size, 4, none⟩ = some (.bool false) ∧ w'.cell? ⟨w.heap.size, 5, none⟩ = some (.bool false) ∧ w'.cell? ⟨w.heap.size, 6, none⟩ = some (.int .u64 0) ∧ w'.cell? ⟨w.heap.size, 7, none⟩ = some (.int .u64 0)) (first | (exact ⟨HB.out, HB.out.cell 0, HB.out.cell 1, HB.out.cell 2, HB.out.cell 3, HB.out.cell 4, HB.out.cell 5, HB.out.cell 6, HB.out.cell 7⟩) | (exact ⟨K1.out, K1.out.cell 0, K1.out.cell 1, K1.out.cell 2, K1.out.cell 3, K1.out.cell 4, K1.out.cell 5, K1.out.cell 6, K1.out.cell 7⟩) | (exact ⟨K2.out, K2.out.cell 0, K2.out.cell 1, K2.out.cell 2, K2.out.cell 3, K2.out.cell 4, K2.out.cell 5, K2.out.cell 6, K2.out.cell 7⟩) | (exact ⟨K3.out, K3.out.cell 0, K3.out.cell 1, K3.out.cell 2, K3.out.cell 3, K3.out.cell 4, K3.out.cell 5, K3.out.cell 6, K3.out.cell 7⟩) | (exact ⟨K4.out, K4.out.cell 0, K4.out.cell 1, K4.out.cell 2, K4.out.cell 3, K4.out.cell 4, K4.out.cell 5, K4.out.cell 6, K4.out.cell 7⟩) | (exact ⟨K5.out, K5.out.cell 0, K5.out.cell 1, K5.out.cell 2, K5.out.cell 3, K5.out.cell 4, K5.out.cell 5, K5.out.cell 6, K5.out.cell 7⟩) | (exact ⟨K6.out, K6.out.cell 0, K6.out.cell 1, K6.out.cell 2, K6.out.cell 3, K6.out.cell 4, K6.out.cell 5, K6.out.cell 6, K6.out.cell 7⟩) | (exact ⟨K7.out, K7.out.cell 0, K7.out.cell 1, K7.out.cell 2, K7.out.cell 3, K7.out.cell 4, K7.out.cell 5, K7.out.cell 6, K7.out.cell 7⟩) | (exact ⟨K8.out, K8.out.cell 0, K8.out.cell 1, K8.out.cell 2, K8.out.cell 3, K8.out.cell 4, K8.out.cell 5, K8.out.cell 6, K8.out.cell 7⟩) | (exact ⟨K8.out.alloc _, (K8.out.alloc _).cell 0, (K8.out.alloc _).cell 1, (K8.out.alloc _).cell 2, (K8.out.alloc _).cell 3, (K8.out.alloc _).cell 4, (K8.out.alloc _).cell 5, (K8.out.alloc _).cell 6, (K8.out.alloc _).cell 7⟩)) (first
    | (go_at_call 33; refine (optZeroLengthSectionAsEOF _ _).mono ?_; rintro e w1 ⟨rfl, b1, o1, z1⟩; have k1 : Blk w1 w.heap.size 32 (kOpt kd) := o1.blk (show Blk _ _ _ _ from HB.out) (by simp); have B1 := Lib.hid b1; have O1 := Lib.hid o1; have K1 := Lib.hid k1; have Z1 := Lib.hid z1; clear b1 o1 k1 z1)
    | (go_at_call 34; refine (optStoreIdentityCIDs _ _).mono ?_; rintro e w2 ⟨rfl, b2, o2, z2⟩; have k2 : Blk w2 w.heap.size 32 (kOpt kd) := o2.blk K1.out (by simp); have B2 := Lib.hid b2; have O2 := Lib.hid o2; have K2 := Lib.hid k2; have Z2 := Lib.hid z2; clear b2 o2 k2 z2)
    | (go_at_call 35; refine (optAllowDuplicatePuts _ _).mono ?_; rintro e w3 ⟨rfl, b3, o3, z3⟩; have k3 : Blk w3 w.heap.size 32 (kOpt kd) := o3.blk K2.out (by simp); have B3 := Lib.hid b3; have O3 := Lib.hid o3; have K3 := Lib.hid k3; have Z3 := Lib.hid z3; clear b3 o3 k3 z3)
    | (go_at_call 36; refine (optUseWholeCIDs _ _).mono ?_; rintro e w4 ⟨rfl, b4, o4, z4⟩; have k4 : Blk w4 w.heap.size 32 (kOpt kd) := o4.blk K3.out (by simp); have B4 := Lib.hid b4; have O4 := Lib.hid o4; have K4 := Lib.hid k4; have Z4 := Lib.hid z4; clear b4 o4 k4 z4)
    | (go_at_call 37; refine (optWriteAsCarV1 _ _).mono ?_; rintro e w5 ⟨rfl, b5, o5, z5⟩; have k5 : Blk w5 w.heap.size 32 (kOpt kd) := o5.blk K4.out (by simp); have B5 := Lib.hid b5; have O5 := Lib.hid o5; have K5 := Lib.hid k5; have Z5 := Lib.hid z5; clear b5 o5 k5 z5)
    | (go_at_call 38; refine (optWithTrustedCAR _ _).mono ?_; rintro e w6 ⟨rfl, b6, o6, z6⟩; have k6 : Blk w6 w.heap.size 32 (kOpt kd) := o6.blk K5.out (by simp); have B6 := Lib.hid b6; have O6 := Lib.hid o6; have K6 := Lib.hid k6; have Z6 := Lib.hid z6; clear b6 o6 k6 z6)
    | (go_at_call 39; refine (optUseDataPadding _ _).mono ?_; rintro e w7 ⟨rfl, b7, o7, z7⟩; have k7 : Blk w7 w.heap.size 32 (kOpt kd) := o7.blk K6.out (by simp); have B7 := Lib.hid b7; have O7 := Lib.hid o7; have K7 := Lib.hid k7; have Z7 := Lib.hid z7; clear b7 o7 k7 z7)
    | (go_at_call 40; refine (optUseIndexPadding _ _).mono ?_; rintro e w8 ⟨rfl, b8, o8, z8⟩; have k8 : Blk w8 w.heap.size 32 (kOpt kd) := o8.blk K7.out (by simp); have B8 := Lib.hid b8; have O8 := Lib.hid o8; have K8 := Lib.hid k8; have Z8 := Lib.hid z8; clear b8 o8 k8 z8))
  rename_i hh
  have q8 := hh.1.cell 8
  have q9 := hh.1.cell 9
  have q10 := hh.1.cell 10
  have q11 := hh.1.cell 11
  simp only [kOpt] at q8 q9 q10 q11
  have e8 : (w8.alloc (.cells #[setting 59 (w.heap.size + 1), setting 60 w1.heap.size, setting 61 w2.heap.size, setting 62 w3.heap.size, setting 63 w4.heap.size, setting 64 w5.heap.size, setting 65 w6.heap.size, setting 66 w7.heap.size] 99)).cell? ⟨w.heap.size, 8, none⟩ = some (.int .u64 (kd : Int)) := q8
  have e9 : (w8.alloc (.cells #[setting 59 (w.heap.size + 1), setting 60 w1.heap.size, setting 61 w2.heap.size, setting 62 w3.heap.size, setting 63 w4.heap.size, setting 64 w5.heap.size, setting 65 w6.heap.size, setting 66 w7.heap.size] 99)).cell? ⟨w.heap.size, 9, none⟩ = some (.int .u64 0) := q9
  have e10 : (w8.alloc (.cells #[setting 59 (w.heap.size + 1), setting 60 w1.heap.size, setting 61 w2.heap.size, setting 62 w3.heap.size, setting 63 w4.heap.size, setting 64 w5.heap.size, setting 65 w6.heap.size, setting 66 w7.heap.size] 99)).cell? ⟨w.heap.size, 10, none⟩ = some (.int .u64 0) := q10
  have e11 : (w8.alloc (.cells #[setting 59 (w.heap.size + 1), setting 60 w1.heap.size, setting 61 w2.heap.size, setting 62 w3.heap.size, setting 63 w4.heap.size, setting 64 w5.heap.size, setting 65 w6.heap.size, setting 66 w7.heap.size] 99)).cell? ⟨w.heap.size, 11, none⟩ = some (.int .u64 0) := q11
  have hrow8 : Blk (w8.alloc (.cells #[setting 59 (w.heap.size + 1), setting 60 w1.heap.size, setting 61 w2.heap.size, setting 62 w3.heap.size, setting 63 w4.heap.size, setting 64 w5.heap.size, setting 65 w6.heap.size, setting 66 w7.heap.size] 99)) w8.heap.size 99 ([setting 59 (w.heap.size + 1), setting 60 w1.heap.size, setting 61 w2.heap.size, setting 62 w3.heap.size, setting 63 w4.heap.size, setting 64 w5.heap.size, setting 65 w6.heap.size, setting 66 w7.heap.size] ++ []).toArray := Blk.new' w8 _ _ rfl
  have hbx : Blk (w8.alloc (.cells #[setting 59 (w.heap.size + 1), setting 60 w1.heap.size, setting 61 w2.heap.size, setting 62 w3.heap.size, setting 63 w4.heap.size, setting 64 w5.heap.size, setting 65 w6.heap.size, setting 66 w7.heap.size] 99)) w.heap.size 32 (kOpt kd) := hh.1
  have hwsz : w.heap.size < w8.heap.size := Nat.lt_of_lt_of_le (by simp) (Nat.le_trans O1.out.size (Nat.le_trans O2.out.size (Nat.le_trans O3.out.size (Nat.le_trans O4.out.size (Nat.le_trans O5.out.size (Nat.le_trans O6.out.size (Nat.le_trans O7.out.size O8.out.size)))))))
  have HROW8 := Lib.hid hrow8
  have HBX := Lib.hid hbx
  clear q8 q9 q10 q11 hh e9 e10 e11 hrow8 hbx
  go_wp2_with (first
    | (go_at_call 41; refine (optUseIndexCodec _ _).mono ?_; rintro e w9 ⟨rfl, b9, o9, z9⟩
       have B9 := Lib.hid b9; have O9 := Lib.hid o9; have ROW9 := Lib.hid (o9.blk HROW8.out (by simp)); have BX9 := Lib.hid (o9.blk HBX.out (by simp)); have hz9 := o9.size; clear b9 o9 z9)
    | (at_builtin; refine wpList_append_blk rfl _ _ 58 rfl 99 i0 _ 1 8 Tryz.underlying58 hi hz0 hz1 hz2 rfl (by decide) (.slice (some ⟨w8.heap.size, 0, none⟩) 8 8) 8 [setting 59 (w.heap.size + 1), setting 60 w1.heap.size, setting 61 w2.heap.size, setting 62 w3.heap.size, setting 63 w4.heap.size, setting 64 w5.heap.size, setting 65 w6.heap.size, setting 66 w7.heap.size] rfl rfl
         (owns_blk (ROW9.out.alloc _) rfl rfl (Nat.le_refl _) (by unfold maxLen; omega)) ⟨w9.heap.size, 0, none⟩ 1 [setting 67 (w8.heap.size + 1)] rfl rfl (news_alloc _ _ _) (by intro u hu; simp at hu; subst hu; rfl) (by unfold maxLen; omega) (by omega) ?_
       intro g' cap' sp' w5 hb5 r1 r2 r3 hg5 ho5 hown5
       have o95 : Off [w8.heap.size] w9 w5 := (Off.alloc (Off.refl [w8.heap.size] w9) _).then (ho5.out [w8.heap.size] (fun g hg => by simp [Value.ownBlock] at hg; simp [hg])) (fun x hx => Or.inl hx)
       have k5 := o95.blk BX9.out (ni1 (by omega))
       have e9 : w5.cell? ⟨w.heap.size, 9, none⟩ = some (.int .u64 0) := k5.cell 9
       have e10 : w5.cell? ⟨w.heap.size, 10, none⟩ = some (.int .u64 0) := k5.cell 10
       have e11 : w5.cell? ⟨w.heap.size, 11, none⟩ = some (.int .u64 0) := k5.cell 11
       have O95 := Lib.hid o95; have HG5 := Lib.hid hg5; clear hg5 hown5 o95 k5 r1 r2 r3))
  go_ret
  have n : ∀ x : Nat, x ∉ ([] : List Nat) := fun x => by simp
  have m8 : ∀ x : Nat, x < w8.heap.size → x ∉ [w8.heap.size] := fun x hx => ni1 (by omega)
  have a89 : Off [] w8 w9 := ((Off.refl [] w8).alloc _).then O9.out (by simp)
  have c9 : ∀ {q : Nat} {t : TypeId} {cs : Array Value}, Blk w8 q t cs → Blk w5 q t cs := fun hq => O95.out.blk (a89.blk hq (n _)) (m8 _ hq.lt)
  have a78 := O8.out
  have a68 := O7.out.then a78 (by simp)
  have a58 := O6.out.then a68 (by simp)
  have a48 := O5.out.then a58 (by simp)
  have a38 := O4.out.then a48 (by simp)
  have a28 := O3.out.then a38 (by simp)
  have a18 := O2.out.then a28 (by simp)
  have o8 : Off [] w w8 := (((Off.refl [] w).alloc (.cells (kOpt kd) 32)).drew).then (O1.out.then a18 (by simp)) (by simp)
  have o : Off [] w w5 := (o8.then a89 (by simp)).then O95.out (fun x hx => by simp at hx; right; omega)
  have hz9' : w8.heap.size + 1 ≠ w8.heap.size := by omega
  exact ⟨g', _, _, _, _, _, _, _, _, _, cap', sp', rfl, ⟨hb5.out, c9 (a18.blk (B1.out.at (by simp)) (n _)), c9 (a28.blk B2.out (n _)), c9 (a38.blk B3.out (n _)), c9 (a48.blk B4.out (n _)), c9 (a58.blk B5.out (n _)), c9 (a68.blk B6.out (n _)), c9 (a78.blk B7.out (n _)), c9 B8.out, O95.out.blk (B9.out.at (by simp)) (ni1 hz9')⟩, o⟩
end Go.Proofs.YthmhnknkidkdlaaGreatDoor
namespace Go.Proofs.YthmhnknkidkdlaaGreatDoor
open Go.RowKit

set_option maxRecDepth 100000 in
theorem setUseIndexCodec (c : Int) (O p : Nat) (w : World) (hO : Blk w O 75 (optCellsZ false 0 0)) (hp : Blk w p 73 #[.int .u64 c]) :
    Calls Tryz.prog 67 #[.pointer (some ⟨O, 0, none⟩), .pointer (some ⟨p, 0, none⟩)] w fun e w' => e = .returned (.tuple #[]) ∧ Blk w' O 75 (optCellsZ false c 0) ∧ Off [O] w w' := by
  have c0 := hp.cell 0
  have cf := hO.cell 2
  have ff := hO.frozen 2
  simp [optCellsZ] at c0 cf
  have HO := Lib.hid hO
  clear hO hp
  go_enter Tryz.func67, Tryz.ntmps67
  go_wp2_with fail
  go_end0
  exact ⟨rfl, Blk.eq (HO.out.set_ 2 (.int .u64 c)) rfl, (Off.refl [O] w).setCell (p := ⟨O, 2, none⟩) (by simp) _⟩

set_option maxRecDepth 100000 in
set_option maxHeartbeats 4000000 in
theorem applyOptions_k (kd : Nat) (hk : 0 < kd) (g p1 p2 p3 p4 p5 p6 p7 p8 p9 cap : Nat) (sp : List Value) (w : World) (h : OptsK kd w g p1 p2 p3 p4 p5 p6 p7 p8 p9 sp) :
    Calls Tryz.prog 25 #[.slice (some ⟨g, 0, none⟩) 9 cap] w fun e w' => e = .returned (.agg (optCellsZ false (kd : Int) 2048)) ∧ Off [] w w' := by
  obtain ⟨h0, h1, h2, h3, h4, h5, h6, h7, h8, h9⟩ := h
  have hkz : ((kd : Int) == 0) = false := beq_eq_false_iff_ne.2 (by omega)
  have P1 := Lib.hid h1
  have P2 := Lib.hid h2
  have P3 := Lib.hid h3
  have P4 := Lib.hid h4
  have P5 := Lib.hid h5
  have P6 := Lib.hid h6
  have P7 := Lib.hid h7
  have P8 := Lib.hid h8
  have P9 := Lib.hid h9
  have G := Lib.hid h0
  have hgl := h0.lt
  have lts : p1 < w.heap.size ∧ p2 < w.heap.size ∧ p3 < w.heap.size ∧ p4 < w.heap.size ∧ p5 < w.heap.size ∧ p6 < w.heap.size ∧ p7 < w.heap.size ∧ p8 < w.heap.size ∧ p9 < w.heap.size := ⟨h1.lt, h2.lt, h3.lt, h4.lt, h5.lt, h6.lt, h7.lt, h8.lt, h9.lt⟩
  obtain ⟨l1, l2, l3, l4, l5, l6, l7, l8, l9⟩ := lts
  have c0 := fun o1 o2 => ((h0.alloc o1).alloc o2).cell 0
  simp at c0
  clear h0 h1 h2 h3 h4 h5 h6 h7 h8 h9
  go_enter Tryz.func25, Tryz.ntmps25
  go_wp2_with fail
  refine wp_loop_rounds 10 ?_
  rw [rounds_succ]
  go_wp2_with fail
  refine (setZeroLengthSectionAsEOF false _ p1 _ (Blk.new' (w.alloc _) _ _ (by simp)) ((P1.out.alloc _).alloc _)).mono ?_
  rintro e w1 ⟨rfl, hO, hF⟩
  have hG := hF.blk (show Blk _ _ _ _ from (((G.out).alloc _).alloc _)) (ni1 (by omega))
  have q2 := hF.blk (show Blk _ _ _ _ from (((P2.out).alloc _).alloc _)) (ni1 (by omega))
  have q3 := hF.blk (show Blk _ _ _ _ from (((P3.out).alloc _).alloc _)) (ni1 (by omega))
  have q4 := hF.blk (show Blk _ _ _ _ from (((P4.out).alloc _).alloc _)) (ni1 (by omega))
  have q5 := hF.blk (show Blk _ _ _ _ from (((P5.out).alloc _).alloc _)) (ni1 (by omega))
  have q6 := hF.blk (show Blk _ _ _ _ from (((P6.out).alloc _).alloc _)) (ni1 (by omega))
  have q7 := hF.blk (show Blk _ _ _ _ from (((P7.out).alloc _).alloc _)) (ni1 (by omega))
  have q8 := hF.blk (show Blk _ _ _ _ from (((P8.out).alloc _).alloc _)) (ni1 (by omega))
  have q9 := hF.blk (show Blk _ _ _ _ from (((P9.out).alloc _).alloc _)) (ni1 (by omega))
  have hF' : Off [w.heap.size + 1] w w1 := (((Off.refl [w.heap.size + 1] w).alloc _).alloc _).then hF (fun x h => by simp at h; simp [h])
  have hr := hF.blk (show Blk _ w.heap.size 75 _ from (Blk.new w _ _).alloc _) (ni1 (by omega))
  clear c0 G
  have c0 := hG.cell 1
  simp at c0
  have G := Lib.hid hG
  clear hG
  clear P2
  have P2 := Lib.hid q2
  clear q2
  clear P3
  have P3 := Lib.hid q3
  clear q3
  clear P4
  have P4 := Lib.hid q4
  clear q4
  clear P5
  have P5 := Lib.hid q5
  clear q5
  clear P6
  have P6 := Lib.hid q6
  clear q6
  clear P7
  have P7 := Lib.hid q7
  clear q7
  clear P8
  have P8 := Lib.hid q8
  clear q8
  clear P9
  have P9 := Lib.hid q9
  clear q9
  have O1 := Lib.hid hO
  have F1 := Lib.hid hF'
  have R1 := Lib.hid hr
  clear hO hF hF' hr
  go_wp2_with fail
  rw [rounds_succ]
  go_wp2_with fail
  refine (setStoreIdentityCIDs _ p2 _ O1.out P2.out).mono ?_
  rintro e w2 ⟨rfl, hO, hF⟩
  have hG := hF.blk (show Blk _ _ _ _ from G.out) (ni1 (by omega))
  have q3 := hF.blk (show Blk _ _ _ _ from P3.out) (ni1 (by omega))
  have q4 := hF.blk (show Blk _ _ _ _ from P4.out) (ni1 (by omega))
  have q5 := hF.blk (show Blk _ _ _ _ from P5.out) (ni1 (by omega))
  have q6 := hF.blk (show Blk _ _ _ _ from P6.out) (ni1 (by omega))
  have q7 := hF.blk (show Blk _ _ _ _ from P7.out) (ni1 (by omega))
  have q8 := hF.blk (show Blk _ _ _ _ from P8.out) (ni1 (by omega))
  have q9 := hF.blk (show Blk _ _ _ _ from P9.out) (ni1 (by omega))
  have hF' : Off [w.heap.size + 1] w w2 := F1.out.then hF (fun x h => by simp at h; simp [h])
  have hr := hF.blk R1.out (ni1 (by omega))
  clear c0 G
  have c0 := hG.cell 2
  simp at c0
  have G := Lib.hid hG
  clear hG
  clear P3
  have P3 := Lib.hid q3
  clear q3
  clear P4
  have P4 := Lib.hid q4
  clear q4
  clear P5
  have P5 := Lib.hid q5
  clear q5
  clear P6
  have P6 := Lib.hid q6
  clear q6
  clear P7
  have P7 := Lib.hid q7
  clear q7
  clear P8
  have P8 := Lib.hid q8
  clear q8
  clear P9
  have P9 := Lib.hid q9
  clear q9
  have O2 := Lib.hid hO
  have F2 := Lib.hid hF'
  have R2 := Lib.hid hr
  clear hO hF hF' hr
  go_wp2_with fail
  rw [rounds_succ]
  go_wp2_with fail
  refine (setAllowDuplicatePuts _ p3 _ O2.out P3.out).mono ?_
  rintro e w3 ⟨rfl, hO, hF⟩
  have hG := hF.blk (show Blk _ _ _ _ from G.out) (ni1 (by omega))
  have q4 := hF.blk (show Blk _ _ _ _ from P4.out) (ni1 (by omega))
  have q5 := hF.blk (show Blk _ _ _ _ from P5.out) (ni1 (by omega))
  have q6 := hF.blk (show Blk _ _ _ _ from P6.out) (ni1 (by omega))
  have q7 := hF.blk (show Blk _ _ _ _ from P7.out) (ni1 (by omega))
  have q8 := hF.blk (show Blk _ _ _ _ from P8.out) (ni1 (by omega))
  have q9 := hF.blk (show Blk _ _ _ _ from P9.out) (ni1 (by omega))
  have hF' : Off [w.heap.size + 1] w w3 := F2.out.then hF (fun x h => by simp at h; simp [h])
  have hr := hF.blk R2.out (ni1 (by omega))
  clear c0 G
  have c0 := hG.cell 3
  simp at c0
  have G := Lib.hid hG
  clear hG
  clear P4
  have P4 := Lib.hid q4
  clear q4
  clear P5
  have P5 := Lib.hid q5
  clear q5
  clear P6
  have P6 := Lib.hid q6
  clear q6
  clear P7
  have P7 := Lib.hid q7
  clear q7
  clear P8
  have P8 := Lib.hid q8
  clear q8
  clear P9
  have P9 := Lib.hid q9
  clear q9
  have O3 := Lib.hid hO
  have F3 := Lib.hid hF'
  have R3 := Lib.hid hr
  clear hO hF hF' hr
  go_wp2_with fail
  rw [rounds_succ]
  go_wp2_with fail
  refine (setUseWholeCIDs _ p4 _ O3.out P4.out).mono ?_
  rintro e w4 ⟨rfl, hO, hF⟩
  have hG := hF.blk (show Blk _ _ _ _ from G.out) (ni1 (by omega))
  have q5 := hF.blk (show Blk _ _ _ _ from P5.out) (ni1 (by omega))
  have q6 := hF.blk (show Blk _ _ _ _ from P6.out) (ni1 (by omega))
  have q7 := hF.blk (show Blk _ _ _ _ from P7.out) (ni1 (by omega))
  have q8 := hF.blk (show Blk _ _ _ _ from P8.out) (ni1 (by omega))
  have q9 := hF.blk (show Blk _ _ _ _ from P9.out) (ni1 (by omega))
  have hF' : Off [w.heap.size + 1] w w4 := F3.out.then hF (fun x h => by simp at h; simp [h])
  have hr := hF.blk R3.out (ni1 (by omega))
  clear c0 G
  have c0 := hG.cell 4
  simp at c0
  have G := Lib.hid hG
  clear hG
  clear P5
  have P5 := Lib.hid q5
  clear q5
  clear P6
  have P6 := Lib.hid q6
  clear q6
  clear P7
  have P7 := Lib.hid q7
  clear q7
  clear P8
  have P8 := Lib.hid q8
  clear q8
  clear P9
  have P9 := Lib.hid q9
  clear q9
  have O4 := Lib.hid hO
  have F4 := Lib.hid hF'
  have R4 := Lib.hid hr
  clear hO hF hF' hr
  go_wp2_with fail
  rw [rounds_succ]
  go_wp2_with fail
  refine (setWriteAsCarV1 _ p5 _ O4.out P5.out).mono ?_
  rintro e w5 ⟨rfl, hO, hF⟩
  have hG := hF.blk (show Blk _ _ _ _ from G.out) (ni1 (by omega))
  have q6 := hF.blk (show Blk _ _ _ _ from P6.out) (ni1 (by omega))
  have q7 := hF.blk (show Blk _ _ _ _ from P7.out) (ni1 (by omega))
  have q8 := hF.blk (show Blk _ _ _ _ from P8.out) (ni1 (by omega))
  have q9 := hF.blk (show Blk _ _ _ _ from P9.out) (ni1 (by omega))
  have hF' : Off [w.heap.size + 1] w w5 := F4.out.then hF (fun x h => by simp at h; simp [h])
  have hr := hF.blk R4.out (ni1 (by omega))
  clear c0 G
  have c0 := hG.cell 5
  simp at c0
  have G := Lib.hid hG
  clear hG
  clear P6
  have P6 := Lib.hid q6
  clear q6
  clear P7
  have P7 := Lib.hid q7
  clear q7
  clear P8
  have P8 := Lib.hid q8
  clear q8
  clear P9
  have P9 := Lib.hid q9
  clear q9
  have O5 := Lib.hid hO
  have F5 := Lib.hid hF'
  have R5 := Lib.hid hr
  clear hO hF hF' hr
  go_wp2_with fail
  rw [rounds_succ]
  go_wp2_with fail
  refine (setWithTrustedCAR _ p6 _ O5.out P6.out).mono ?_
  rintro e w6 ⟨rfl, hO, hF⟩
  have hG := hF.blk (show Blk _ _ _ _ from G.out) (ni1 (by omega))
  have q7 := hF.blk (show Blk _ _ _ _ from P7.out) (ni1 (by omega))
  have q8 := hF.blk (show Blk _ _ _ _ from P8.out) (ni1 (by omega))
  have q9 := hF.blk (show Blk _ _ _ _ from P9.out) (ni1 (by omega))
  have hF' : Off [w.heap.size + 1] w w6 := F5.out.then hF (fun x h => by simp at h; simp [h])
  have hr := hF.blk R5.out (ni1 (by omega))
  clear c0 G
  have c0 := hG.cell 6
  simp at c0
  have G := Lib.hid hG
  clear hG
  clear P7
  have P7 := Lib.hid q7
  clear q7
  clear P8
  have P8 := Lib.hid q8
  clear q8
  clear P9
  have P9 := Lib.hid q9
  clear q9
  have O6 := Lib.hid hO
  have F6 := Lib.hid hF'
  have R6 := Lib.hid hr
  clear hO hF hF' hr
  go_wp2_with fail
  rw [rounds_succ]
  go_wp2_with fail
  refine (setUseDataPadding _ p7 _ O6.out P7.out).mono ?_
  rintro e w7 ⟨rfl, hO, hF⟩
  have hG := hF.blk (show Blk _ _ _ _ from G.out) (ni1 (by omega))
  have q8 := hF.blk (show Blk _ _ _ _ from P8.out) (ni1 (by omega))
  have q9 := hF.blk (show Blk _ _ _ _ from P9.out) (ni1 (by omega))
  have hF' : Off [w.heap.size + 1] w w7 := F6.out.then hF (fun x h => by simp at h; simp [h])
  have hr := hF.blk R6.out (ni1 (by omega))
  clear c0 G
  have c0 := hG.cell 7
  simp at c0
  have G := Lib.hid hG
  clear hG
  clear P8
  have P8 := Lib.hid q8
  clear q8
  clear P9
  have P9 := Lib.hid q9
  clear q9
  have O7 := Lib.hid hO
  have F7 := Lib.hid hF'
  have R7 := Lib.hid hr
  clear hO hF hF' hr
  go_wp2_with fail
  rw [rounds_succ]
  go_wp2_with fail
  refine (setUseIndexPadding _ p8 _ O7.out P8.out).mono ?_
  rintro e w8 ⟨rfl, hO, hF⟩
  have hG := hF.blk (show Blk _ _ _ _ from G.out) (ni1 (by omega))
  have q9 := hF.blk (show Blk _ _ _ _ from P9.out) (ni1 (by omega))
  have hF' : Off [w.heap.size + 1] w w8 := F7.out.then hF (fun x h => by simp at h; simp [h])
  have hr := hF.blk R7.out (ni1 (by omega))
  clear c0 G
  have c0 := hG.cell 8
  simp at c0
  have G := Lib.hid hG
  clear hG
  clear P9
  have P9 := Lib.hid q9
  clear q9
  have O8 := Lib.hid hO
  have F8 := Lib.hid hF'
  have R8 := Lib.hid hr
  clear hO hF hF' hr
  go_wp2_with fail
  rw [rounds_succ]
  go_wp2_with fail
  refine (setUseIndexCodec (kd : Int) _ p9 _ O8.out P9.out).mono ?_
  rintro e w9 ⟨rfl, hO, hF⟩
  have hF' : Off [w.heap.size + 1] w w9 := F8.out.then hF (fun x h => by simp at h; simp [h])
  have hr := hF.blk R8.out (ni1 (by omega))
  have O9 := Lib.hid hO
  have F9 := Lib.hid hF'
  have R9 := Lib.hid hr
  clear hO hF hF' hr
  go_wp2_with fail
  clear c0
  have o0 := O9.out.cell 0
  have r0 := R9.out.cell 0
  have rf0 := R9.out.frozen 0
  have o1 := O9.out.cell 1
  have r1 := R9.out.cell 1
  have rf1 := R9.out.frozen 1
  have o2 := O9.out.cell 2
  have r2 := R9.out.cell 2
  have rf2 := R9.out.frozen 2
  have o3 := O9.out.cell 3
  have r3 := R9.out.cell 3
  have rf3 := R9.out.frozen 3
  have o4 := O9.out.cell 4
  have r4 := R9.out.cell 4
  have rf4 := R9.out.frozen 4
  have o5 := O9.out.cell 5
  have r5 := R9.out.cell 5
  have rf5 := R9.out.frozen 5
  have o6 := O9.out.cell 6
  have r6 := R9.out.cell 6
  have rf6 := R9.out.frozen 6
  have o7 := O9.out.cell 7
  have r7 := R9.out.cell 7
  have rf7 := R9.out.frozen 7
  have o8 := O9.out.cell 8
  have r8 := R9.out.cell 8
  have rf8 := R9.out.frozen 8
  have o9 := O9.out.cell 9
  have r9 := R9.out.cell 9
  have rf9 := R9.out.frozen 9
  have o10 := O9.out.cell 10
  have r10 := R9.out.cell 10
  have rf10 := R9.out.frozen 10
  have o11 := O9.out.cell 11
  have r11 := R9.out.cell 11
  have rf11 := R9.out.frozen 11
  have o12 := O9.out.cell 12
  have r12 := R9.out.cell 12
  have rf12 := R9.out.frozen 12
  have of4 := O9.out.frozen 4
  simp [optCellsZ] at o0 o1 o2 o3 o4 o5 o6 o7 o8 o9 o10 o11 o12 r0 r1 r2 r3 r4 r5 r6 r7 r8 r9 r10 r11 r12
  rw [rounds_succ]
  go_wp2_with fail
  have hr := R9.out.far (p := ⟨w.heap.size + 1, 4, none⟩) (by simp) (.int .u64 2048)
  refine bodyPost_ret (results_row rfl _ (Blk.fill13 hr) rfl Tryz.underlying75 rfl (by kernel_rfl)) rfl ⟨rfl, ?_⟩
  refine Off.then (F9.out.setCell (p := ⟨w.heap.size + 1, 4, none⟩) (by simp) _) off_fill13 (fun x h => by simp at h; omega) |>.mono (S' := []) (fun x h => by simp at h; omega)

/-- A slice of settings of which ApplyOptions makes the options of an index's codec kd; it lies in blocks that were there in w. -/
def OptV (kd : Nat) (v : Value) (w : World) : Prop := ∀ S W, Off S w W → (∀ x, x ∈ S → w.heap.size ≤ x) → Calls Tryz.prog 25 #[v] W fun e w' => e = .returned (.agg (optCellsZ false (kd : Int) 2048)) ∧ Off [] W w'
theorem OptV.off {kd : Nat} {v : Value} {a b : World} {S : List Nat} (h : OptV kd v a) (k : Off S a b) (hS : ∀ x, x ∈ S → a.heap.size ≤ x) : OptV kd v b := fun _S' W ho hS' =>
  h S W (k.then ho (fun x hx => Or.inr (Nat.le_trans k.size (hS' x hx)))) hS
theorem OptV.at {kd : Nat} {v : Value} {w : World} (h : OptV kd v w) : Calls Tryz.prog 25 #[v] w fun e w' => e = .returned (.agg (optCellsZ false (kd : Int) 2048)) ∧ Off [] w w' := h [] w (Off.refl _ _) (fun x hx => by simp at hx)
theorem optV_k (kd : Nat) (hk : 0 < kd) (g p1 p2 p3 p4 p5 p6 p7 p8 p9 cap : Nat) (sp : List Value) (w : World) (h : OptsK kd w g p1 p2 p3 p4 p5 p6 p7 p8 p9 sp) : OptV kd (.slice (some ⟨g, 0, none⟩) 9 cap) w := fun S W ho hS => by
  have ok : ∀ {q : Nat} {t : TypeId} {cs : Array Value}, Blk w q t cs → Blk W q t cs := fun hq => ho.blk hq (fun e => absurd (hS _ e) (Nat.not_le.2 hq.lt))
  obtain ⟨h0, h1, h2, h3, h4, h5, h6, h7, h8, h9⟩ := h
  exact applyOptions_k kd hk g p1 p2 p3 p4 p5 p6 p7 p8 p9 cap sp W ⟨ok h0, ok h1, ok h2, ok h3, ok h4, ok h5, ok h6, ok h7, ok h8, ok h9⟩
end Go.Proofs.YthmhnknkidkdlaaGreatDoor
