/- impl.options at no options: eight settings; car.ApplyOptions. -/
import Derived.Test.YtioabgenlaikaaaGreatDoorByt
import Derived.Test.YtioabgenlaikaaaGreatDoorOff
import Derived.Deep.RegionHeld3
import Derived.Laws.EntriesVeiled
namespace Go.Proofs.YtioabgenlaikaaaGreatDoor
open Go.RowKit

/-- A setting: the function that writes it, over its value's box. -/
abbrev setting (f g : Nat) : Value := .func (.func f) #[] #[.pointer (some ⟨g, 0, none⟩)]
theorem run_mf (fn : Fn) (first cap : Array Value) (w : World) : (Instr.makeFunc fn first cap).run Tryz.prog w = .ok (.func fn first cap) w := rfl

theorem optZeroLengthSectionAsEOF (v : Bool) (w : World) :
    Calls Tryz.prog 12 #[.bool v] w fun e w' => e = .returned (setting 27 w.heap.size) ∧ Blk w' w.heap.size 4 #[.bool v] ∧ Off [] w w' ∧ w'.heap.size = w.heap.size + 1 := by
  have hmf := run_mf
  go_enter Tryz.func12, Tryz.ntmps12
  go_wp2_with fail
  go_ret
  exact ⟨rfl, Blk.new w _ _, (Off.refl [] w).alloc _, by simp⟩

theorem optStoreIdentityCIDs (v : Bool) (w : World) :
    Calls Tryz.prog 13 #[.bool v] w fun e w' => e = .returned (setting 28 w.heap.size) ∧ Blk w' w.heap.size 4 #[.bool v] ∧ Off [] w w' ∧ w'.heap.size = w.heap.size + 1 := by
  have hmf := run_mf
  go_enter Tryz.func13, Tryz.ntmps13
  go_wp2_with fail
  go_ret
  exact ⟨rfl, Blk.new w _ _, (Off.refl [] w).alloc _, by simp⟩

theorem optAllowDuplicatePuts (v : Bool) (w : World) :
    Calls Tryz.prog 14 #[.bool v] w fun e w' => e = .returned (setting 29 w.heap.size) ∧ Blk w' w.heap.size 4 #[.bool v] ∧ Off [] w w' ∧ w'.heap.size = w.heap.size + 1 := by
  have hmf := run_mf
  go_enter Tryz.func14, Tryz.ntmps14
  go_wp2_with fail
  go_ret
  exact ⟨rfl, Blk.new w _ _, (Off.refl [] w).alloc _, by simp⟩

theorem optUseWholeCIDs (v : Bool) (w : World) :
    Calls Tryz.prog 15 #[.bool v] w fun e w' => e = .returned (setting 30 w.heap.size) ∧ Blk w' w.heap.size 4 #[.bool v] ∧ Off [] w w' ∧ w'.heap.size = w.heap.size + 1 := by
  have hmf := run_mf
  go_enter Tryz.func15, Tryz.ntmps15
  go_wp2_with fail
  go_ret
  exact ⟨rfl, Blk.new w _ _, (Off.refl [] w).alloc _, by simp⟩

theorem optWriteAsCarV1 (v : Bool) (w : World) :
    Calls Tryz.prog 16 #[.bool v] w fun e w' => e = .returned (setting 31 w.heap.size) ∧ Blk w' w.heap.size 4 #[.bool v] ∧ Off [] w w' ∧ w'.heap.size = w.heap.size + 1 := by
  have hmf := run_mf
  go_enter Tryz.func16, Tryz.ntmps16
  go_wp2_with fail
  go_ret
  exact ⟨rfl, Blk.new w _ _, (Off.refl [] w).alloc _, by simp⟩

theorem optWithTrustedCAR (v : Bool) (w : World) :
    Calls Tryz.prog 17 #[.bool v] w fun e w' => e = .returned (setting 32 w.heap.size) ∧ Blk w' w.heap.size 4 #[.bool v] ∧ Off [] w w' ∧ w'.heap.size = w.heap.size + 1 := by
  have hmf := run_mf
  go_enter Tryz.func17, Tryz.ntmps17
  go_wp2_with fail
  go_ret
  exact ⟨rfl, Blk.new w _ _, (Off.refl [] w).alloc _, by simp⟩

theorem optUseDataPadding (v : Int) (w : World) :
    Calls Tryz.prog 18 #[.int .u64 v] w fun e w' => e = .returned (setting 33 w.heap.size) ∧ Blk w' w.heap.size 22 #[.int .u64 v] ∧ Off [] w w' ∧ w'.heap.size = w.heap.size + 1 := by
  have hmf := run_mf
  go_enter Tryz.func18, Tryz.ntmps18
  go_wp2_with fail
  go_ret
  exact ⟨rfl, Blk.new w _ _, (Off.refl [] w).alloc _, by simp⟩

theorem optUseIndexPadding (v : Int) (w : World) :
    Calls Tryz.prog 19 #[.int .u64 v] w fun e w' => e = .returned (setting 34 w.heap.size) ∧ Blk w' w.heap.size 22 #[.int .u64 v] ∧ Off [] w w' ∧ w'.heap.size = w.heap.size + 1 := by
  have hmf := run_mf
  go_enter Tryz.func19, Tryz.ntmps19
  go_wp2_with fail
  go_ret
  exact ⟨rfl, Blk.new w _ _, (Off.refl [] w).alloc _, by simp⟩

/-- No options. -/
def noOpt : Array Value := #[.bool false, .bool false, .bool false, .bool false, .bool false, .bool false, .int .u64 0, .int .u64 0, .int .u64 0, .int .u64 0, .int .u64 0, .int .u64 0]

/-- Block g holds the eight settings, each over its own box. -/
def OptsAt (w : World) (g p1 p2 p3 p4 p5 p6 p7 p8 : Nat) : Prop := Blk w g 54 #[setting 27 p1, setting 28 p2, setting 29 p3, setting 30 p4, setting 31 p5, setting 32 p6, setting 33 p7, setting 34 p8] ∧ Blk w p1 4 #[.bool false] ∧ Blk w p2 4 #[.bool false] ∧ Blk w p3 4 #[.bool false] ∧ Blk w p4 4 #[.bool false] ∧ Blk w p5 4 #[.bool false] ∧ Blk w p6 4 #[.bool false] ∧ Blk w p7 22 #[.int .u64 0] ∧ Blk w p8 22 #[.int .u64 0]
theorem OptsAt.off {a b : World} {S : List Nat} {g p1 p2 p3 p4 p5 p6 p7 p8 : Nat} (h : OptsAt a g p1 p2 p3 p4 p5 p6 p7 p8) (k : Off S a b) (hS : ∀ x, x ∈ S → a.heap.size ≤ x) : OptsAt b g p1 p2 p3 p4 p5 p6 p7 p8 := by
  obtain ⟨h0, h1, h2, h3, h4, h5, h6, h7, h8⟩ := h
  have ok : ∀ {q : Nat} {t : TypeId} {cs : Array Value}, Blk a q t cs → Blk b q t cs := fun hq => k.blk hq (fun e => absurd (hS _ e) (Nat.not_le.2 hq.lt))
  exact ⟨ok h0, ok h1, ok h2, ok h3, ok h4, ok h5, ok h6, ok h7, ok h8⟩

set_option maxRecDepth 100000 in
set_option maxHeartbeats 4000000 in
theorem options_none (w : World) :
    Calls Tryz.prog 8 #[.agg noOpt] w fun e w' => ∃ g p1 p2 p3 p4 p5 p6 p7 p8, e = .returned (.slice (some ⟨g, 0, none⟩) 8 8) ∧ OptsAt w' g p1 p2 p3 p4 p5 p6 p7 p8 ∧ Off [] w w' := by
  have hb := Blk.new w 26 noOpt
  have HB := Lib.hid hb
  unfold noOpt
  clear hb
  go_enter Tryz.func8, Tryz.ntmps8
  go_wp2_with fail
  go_region_held3 (fun w' => Blk w' w.heap.size 26 noOpt ∧ w'.cell? ⟨w.heap.size, 0, none⟩ = some (.bool false) ∧ w'.cell? ⟨w.heap.size, 1, none⟩ = some (.bool false) ∧ w'.cell? ⟨w.heap.size, 2, none⟩ = some (.bool false) ∧ w'.cell? ⟨w.heap.size, 3, none⟩ = some (.bool false) ∧ w'.cell? ⟨w.heap.size, 4, none⟩ = some (.bool false) ∧ w'.cell? ⟨w.heap.size, 5, none⟩ = some (.bool false) ∧ w'.cell? ⟨w.heap.size, 6, none⟩ = some (.int .u64 0) ∧ w'.cell? ⟨w.heap.size, 7, none⟩ = some (.int .u64 0)) (first | (exact ⟨HB.out, HB.out.cell 0, HB.out.cell 1, HB.out.cell 2, HB.out.cell 3, HB.out.cell 4, HB.out.cell 5, HB.out.cell 6, HB.out.cell 7⟩) | (exact ⟨K1.out, K1.out.cell 0, K1.out.cell 1, K1.out.cell 2, K1.out.cell 3, K1.out.cell 4, K1.out.cell 5, K1.out.cell 6, K1.out.cell 7⟩) | (exact ⟨K2.out, K2.out.cell 0, K2.out.cell 1, K2.out.cell 2, K2.out.cell 3, K2.out.cell 4, K2.out.cell 5, K2.out.cell 6, K2.out.cell 7⟩) | (exact ⟨K3.out, K3.out.cell 0, K3.out.cell 1, K3.out.cell 2, K3.out.cell 3, K3.out.cell 4, K3.out.cell 5, K3.out.cell 6, K3.out.cell 7⟩) | (exact ⟨K4.out, K4.out.cell 0, K4.out.cell 1, K4.out.cell 2, K4.out.cell 3, K4.out.cell 4, K4.out.cell 5, K4.out.cell 6, K4.out.cell 7⟩) | (exact ⟨K5.out, K5.out.cell 0, K5.out.cell 1, K5.out.cell 2, K5.out.cell 3, K5.out.cell 4, K5.out.cell 5, K5.out.cell 6, K5.out.cell 7⟩) | (exact ⟨K6.out, K6.out.cell 0, K6.out.cell 1, K6.out.cell 2, K6.out.cell 3, K6.out.cell 4, K6.out.cell 5, K6.out.cell 6, K6.out.cell 7⟩) | (exact ⟨K7.out, K7.out.cell 0, K7.out.cell 1, K7.out.cell 2, K7.out.cell 3, K7.out.cell 4, K7.out.cell 5, K7.out.cell 6, K7.out.cell 7⟩) | (exact ⟨K8.out, K8.out.cell 0, K8.out.cell 1, K8.out.cell 2, K8.out.cell 3, K8.out.cell 4, K8.out.cell 5, K8.out.cell 6, K8.out.cell 7⟩) | (exact ⟨K8.out.alloc _, (K8.out.alloc _).cell 0, (K8.out.alloc _).cell 1, (K8.out.alloc _).cell 2, (K8.out.alloc _).cell 3, (K8.out.alloc _).cell 4, (K8.out.alloc _).cell 5, (K8.out.alloc _).cell 6, (K8.out.alloc _).cell 7⟩)) (first
    | (go_at_call 12; refine (optZeroLengthSectionAsEOF _ _).mono ?_; rintro e w1 ⟨rfl, b1, o1, z1⟩; have k1 : Blk w1 w.heap.size 26 noOpt := o1.blk (show Blk _ _ _ _ from HB.out) (by simp); have B1 := Lib.hid b1; have O1 := Lib.hid o1; have K1 := Lib.hid k1; have Z1 := Lib.hid z1; clear b1 o1 k1 z1)
    | (go_at_call 13; refine (optStoreIdentityCIDs _ _).mono ?_; rintro e w2 ⟨rfl, b2, o2, z2⟩; have k2 : Blk w2 w.heap.size 26 noOpt := o2.blk K1.out (by simp); have B2 := Lib.hid b2; have O2 := Lib.hid o2; have K2 := Lib.hid k2; have Z2 := Lib.hid z2; clear b2 o2 k2 z2)
    | (go_at_call 14; refine (optAllowDuplicatePuts _ _).mono ?_; rintro e w3 ⟨rfl, b3, o3, z3⟩; have k3 : Blk w3 w.heap.size 26 noOpt := o3.blk K2.out (by simp); have B3 := Lib.hid b3; have O3 := Lib.hid o3; have K3 := Lib.hid k3; have Z3 := Lib.hid z3; clear b3 o3 k3 z3)
    | (go_at_call 15; refine (optUseWholeCIDs _ _).mono ?_; rintro e w4 ⟨rfl, b4, o4, z4⟩; have k4 : Blk w4 w.heap.size 26 noOpt := o4.blk K3.out (by simp); have B4 := Lib.hid b4; have O4 := Lib.hid o4; have K4 := Lib.hid k4; have Z4 := Lib.hid z4; clear b4 o4 k4 z4)
    | (go_at_call 16; refine (optWriteAsCarV1 _ _).mono ?_; rintro e w5 ⟨rfl, b5, o5, z5⟩; have k5 : Blk w5 w.heap.size 26 noOpt := o5.blk K4.out (by simp); have B5 := Lib.hid b5; have O5 := Lib.hid o5; have K5 := Lib.hid k5; have Z5 := Lib.hid z5; clear b5 o5 k5 z5)
    | (go_at_call 17; refine (optWithTrustedCAR _ _).mono ?_; rintro e w6 ⟨rfl, b6, o6, z6⟩; have k6 : Blk w6 w.heap.size 26 noOpt := o6.blk K5.out (by simp); have B6 := Lib.hid b6; have O6 := Lib.hid o6; have K6 := Lib.hid k6; have Z6 := Lib.hid z6; clear b6 o6 k6 z6)
    | (go_at_call 18; refine (optUseDataPadding _ _).mono ?_; rintro e w7 ⟨rfl, b7, o7, z7⟩; have k7 : Blk w7 w.heap.size 26 noOpt := o7.blk K6.out (by simp); have B7 := Lib.hid b7; have O7 := Lib.hid o7; have K7 := Lib.hid k7; have Z7 := Lib.hid z7; clear b7 o7 k7 z7)
    | (go_at_call 19; refine (optUseIndexPadding _ _).mono ?_; rintro e w8 ⟨rfl, b8, o8, z8⟩; have k8 : Blk w8 w.heap.size 26 noOpt := o8.blk K7.out (by simp); have B8 := Lib.hid b8; have O8 := Lib.hid o8; have K8 := Lib.hid k8; have Z8 := Lib.hid z8; clear b8 o8 k8 z8))
  rename_i hh
  have q8 := hh.1.cell 8
  have q9 := hh.1.cell 9
  have q10 := hh.1.cell 10
  have q11 := hh.1.cell 11
  simp only [noOpt] at q8 q9 q10 q11
  have e8 : (w8.alloc (.cells #[setting 27 (w.heap.size + 1), setting 28 w1.heap.size, setting 29 w2.heap.size, setting 30 w3.heap.size, setting 31 w4.heap.size, setting 32 w5.heap.size, setting 33 w6.heap.size, setting 34 w7.heap.size] 54)).cell? ⟨w.heap.size, 8, none⟩ = some (.int .u64 0) := q8
  have e9 : (w8.alloc (.cells #[setting 27 (w.heap.size + 1), setting 28 w1.heap.size, setting 29 w2.heap.size, setting 30 w3.heap.size, setting 31 w4.heap.size, setting 32 w5.heap.size, setting 33 w6.heap.size, setting 34 w7.heap.size] 54)).cell? ⟨w.heap.size, 9, none⟩ = some (.int .u64 0) := q9
  have e10 : (w8.alloc (.cells #[setting 27 (w.heap.size + 1), setting 28 w1.heap.size, setting 29 w2.heap.size, setting 30 w3.heap.size, setting 31 w4.heap.size, setting 32 w5.heap.size, setting 33 w6.heap.size, setting 34 w7.heap.size] 54)).cell? ⟨w.heap.size, 10, none⟩ = some (.int .u64 0) := q10
  have e11 : (w8.alloc (.cells #[setting 27 (w.heap.size + 1), setting 28 w1.heap.size, setting 29 w2.heap.size, setting 30 w3.heap.size, setting 31 w4.heap.size, setting 32 w5.heap.size, setting 33 w6.heap.size, setting 34 w7.heap.size] 54)).cell? ⟨w.heap.size, 11, none⟩ = some (.int .u64 0) := q11
  clear q8 q9 q10 q11 hh
  go_wp2_with fail
  go_ret
  have a12 := O2.out
  have a23 := O3.out
  have a34 := O4.out
  have a45 := O5.out
  have a56 := O6.out
  have a67 := O7.out
  have a78 := O8.out
  have s2 := a12
  have n : ∀ x : Nat, x ∉ ([] : List Nat) := fun x => by simp
  have b1 := a78.blk (a67.blk (a56.blk (a45.blk (a34.blk (a23.blk (a12.blk B1.out (n _)) (n _)) (n _)) (n _)) (n _)) (n _)) (n _)
  have b2 := a78.blk (a67.blk (a56.blk (a45.blk (a34.blk (a23.blk B2.out (n _)) (n _)) (n _)) (n _)) (n _)) (n _)
  have b3 := a78.blk (a67.blk (a56.blk (a45.blk (a34.blk B3.out (n _)) (n _)) (n _)) (n _)) (n _)
  have b4 := a78.blk (a67.blk (a56.blk (a45.blk B4.out (n _)) (n _)) (n _)) (n _)
  have b5 := a78.blk (a67.blk (a56.blk B5.out (n _)) (n _)) (n _)
  have b6 := a78.blk (a67.blk B6.out (n _)) (n _)
  have b7 := a78.blk B7.out (n _)
  have o : Off [] w w8 := ((((((((((Off.refl [] w).alloc (.cells noOpt 26)).drew).then O1.out (by simp)).then a12 (by simp)).then a23 (by simp)).then a34 (by simp)).then a45 (by simp)).then a56 (by simp)).then a67 (by simp)).then a78 (by simp)
  exact ⟨_, _, _, _, _, _, _, _, _, rfl, ⟨Blk.new w8 _ _, Blk.alloc (b1.at (by simp)) _, b2.alloc _, b3.alloc _, b4.alloc _, b5.alloc _, b6.alloc _, b7.alloc _, B8.out.alloc _⟩, o.alloc _⟩
end Go.Proofs.YtioabgenlaikaaaGreatDoor
