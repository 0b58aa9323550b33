/- What makes a decoder. -/
import Derived.Test.YtioabgenlaikaaaGreatDoorCb4
import Derived.Deep.RegionHeld3
namespace Go.Proofs.YtioabgenlaikaaaGreatDoor
open Go.RowKit

theorem Tryz.infoInt : (Tryz.prog.info? 3).map (fun i => (i.zero, i.size, i.bytes)) = some (some (.int .i64 0), 1, 8) := by kernel_rfl
theorem Tryz.infoPhase : (Tryz.prog.info? 91).map (fun i => (i.zero, i.size, i.bytes)) = some (some (.int .u8 0), 1, 1) := by kernel_rfl
theorem info_parts8 {P : Program} {e : TypeId} {z : Value} {s b : Nat} (h : (P.info? e).map (fun i => (i.zero, i.size, i.bytes)) = some (some z, s, b)) : ∃ i, P.info? e = some i ∧ i.zero = some z ∧ i.size = s ∧ i.bytes = b := by
  obtain ⟨i, hi, he⟩ := Option.map_eq_some_iff.1 h
  simp at he
  exact ⟨i, hi, he.1, he.2.1, he.2.2⟩
theorem run_make10 {P : Program} {t e : TypeId} {i : TypeInfo} {k : IntKind} {sz : Nat} (ht : P.underlying t = some (.slice e)) (hi : P.info? e = some i) (hz : i.zero = some (.int k 0)) (hs : i.size = 1) (hb : i.bytes = sz) (hsz : sz ≤ 8) (w : World) :
    (Instr.makeSlice t (.int .i64 0) (.int .i64 10)).run P w = .ok (.slice (some ⟨w.heap.size, 0, none⟩) 0 10) (w.alloc (.cells (tenCells k 0) e)) := by
  have hr := run_make (P := P) w t e i (.int k 0) ht hi hz .i64 .i64 0 10 (by omega) (by omega) (by rw [hb]; omega) (by omega)
  rw [hr, hs]
  have e : madeCells (Value.int k 0).cells (Int.toNat 10 * 1) = tenCells k 0 := by
    rw [show Int.toNat 10 * 1 = 10 from rfl]
    apply Array.ext
    · simp [size_madeCells, tenCells]
    · intro j h1 h2
      have hj : j < 10 := by simpa [size_madeCells] using h1
      have e1 : (madeCells (Value.int k 0).cells 10)[j] = .int k 0 := by simp [madeCells, Value.cells, Nat.mod_one]
      rw [e1]
      match j, hj with
      | 0, _ => rfl
      | 1, _ => rfl
      | 2, _ => rfl
      | 3, _ => rfl
      | 4, _ => rfl
      | 5, _ => rfl
      | 6, _ => rfl
      | 7, _ => rfl
      | 8, _ => rfl
      | 9, _ => rfl
  rw [e]
  rfl

/-- The settings that the header's decoder has. -/
def cfg : Value := .agg #[.bool true, .bool false, .int .i64 0, .bool false, .bool false, .bool false, .bool false]

theorem Blk.set_eq {w : World} {g i : Nat} {t : TypeId} {cs cs' : Array Value} {u : Value} (h : Blk w g t cs) (e : cs.setIfInBounds i u = cs') : Blk (w.setCell ⟨g, i, none⟩ u) g t cs' := e ▸ h.set_ i u

set_option maxRecDepth 100000 in
set_option maxHeartbeats 8000000 in
theorem newDecoder_ok (R : Nat) (w : World) :
    Calls Tryz.prog 41 #[cfg, .iface 33 (.pointer (some ⟨R, 0, none⟩))] w fun e w' => ∃ D S T sg lg, e = .returned (.pointer (some ⟨D, 0, none⟩)) ∧ Blk w' D 93 (decCells S sg 0 0 lg 0) ∧ SsC w' S T (zeroBytes 32) 0 ∧ TsC w' T R 0 0 0 ∧ Blk w' sg 91 (tenCells .u8 0) ∧ Blk w' lg 3 (tenCells .i64 0) ∧ Off [] w w' ∧ (w.heap.size ≤ D ∧ w.heap.size ≤ S ∧ w.heap.size ≤ T ∧ w.heap.size ≤ sg ∧ w.heap.size ≤ lg) ∧ (D ≠ sg ∧ D ≠ lg ∧ sg ≠ lg ∧ D ≠ S ∧ D ≠ T ∧ sg ≠ S ∧ sg ≠ T ∧ lg ≠ S ∧ lg ≠ T ∧ T ≠ S) := by
  obtain ⟨i1, hi1, hz1, hs1, hb1⟩ := info_parts8 Tryz.infoPhase
  obtain ⟨i2, hi2, hz2, hs2, hb2⟩ := info_parts8 Tryz.infoInt
  have hmk1 := fun W => run_make10 (P := Tryz.prog) Tryz.underlying89 hi1 hz1 hs1 hb1 (by omega) W
  have hmk2 := fun W => run_make10 (P := Tryz.prog) Tryz.underlying90 hi2 hz2 hs2 hb2 (by omega) W
  unfold cfg
  have b0 := Blk.new w 69 #[.bool true, .bool false, .int .i64 0, .bool false, .bool false, .bool false, .bool false]
  have B0 := Lib.hid b0
  clear b0
  go_enter Tryz.func41, Tryz.ntmps41
  go_wp2_with fail
  go_region_held3 (fun w' => Blk w' w.heap.size 69 #[.bool true, .bool false, .int .i64 0, .bool false, .bool false, .bool false, .bool false] ∧ w'.cell? ⟨w.heap.size, 0, none⟩ = some (.bool true) ∧ w'.cell? ⟨w.heap.size, 1, none⟩ = some (.bool false) ∧ w'.cell? ⟨w.heap.size, 2, none⟩ = some (.int .i64 0) ∧ w'.cell? ⟨w.heap.size, 3, none⟩ = some (.bool false) ∧ w'.cell? ⟨w.heap.size, 4, none⟩ = some (.bool false) ∧ w'.cell? ⟨w.heap.size, 5, none⟩ = some (.bool false) ∧ w'.cell? ⟨w.heap.size, 6, none⟩ = some (.bool false)) (first | (exact ⟨B0.out, (B0.out).cell 0, (B0.out).cell 1, (B0.out).cell 2, (B0.out).cell 3, (B0.out).cell 4, (B0.out).cell 5, (B0.out).cell 6⟩) | (exact ⟨B0.out.alloc _, (B0.out.alloc _).cell 0, (B0.out.alloc _).cell 1, (B0.out.alloc _).cell 2, (B0.out.alloc _).cell 3, (B0.out.alloc _).cell 4, (B0.out.alloc _).cell 5, (B0.out.alloc _).cell 6⟩) | (exact ⟨(B0.out.alloc _).alloc _, ((B0.out.alloc _).alloc _).cell 0, ((B0.out.alloc _).alloc _).cell 1, ((B0.out.alloc _).alloc _).cell 2, ((B0.out.alloc _).alloc _).cell 3, ((B0.out.alloc _).alloc _).cell 4, ((B0.out.alloc _).alloc _).cell 5, ((B0.out.alloc _).alloc _).cell 6⟩) | (exact ⟨K1.out, (K1.out).cell 0, (K1.out).cell 1, (K1.out).cell 2, (K1.out).cell 3, (K1.out).cell 4, (K1.out).cell 5, (K1.out).cell 6⟩) | (exact ⟨K1.out.alloc _, (K1.out.alloc _).cell 0, (K1.out.alloc _).cell 1, (K1.out.alloc _).cell 2, (K1.out.alloc _).cell 3, (K1.out.alloc _).cell 4, (K1.out.alloc _).cell 5, (K1.out.alloc _).cell 6⟩) | (exact ⟨(K1.out.alloc _).alloc _, ((K1.out.alloc _).alloc _).cell 0, ((K1.out.alloc _).alloc _).cell 1, ((K1.out.alloc _).alloc _).cell 2, ((K1.out.alloc _).alloc _).cell 3, ((K1.out.alloc _).alloc _).cell 4, ((K1.out.alloc _).alloc _).cell 5, ((K1.out.alloc _).alloc _).cell 6⟩) | (exact ⟨((K1.out.alloc _).alloc _).alloc _, (((K1.out.alloc _).alloc _).alloc _).cell 0, (((K1.out.alloc _).alloc _).alloc _).cell 1, (((K1.out.alloc _).alloc _).alloc _).cell 2, (((K1.out.alloc _).alloc _).alloc _).cell 3, (((K1.out.alloc _).alloc _).alloc _).cell 4, (((K1.out.alloc _).alloc _).alloc _).cell 5, (((K1.out.alloc _).alloc _).alloc _).cell 6⟩)) (first
    | (go_at_call 47; refine (newReader_ok R _).mono ?_; rintro e w1 ⟨rfl, hs, ht, ho, hz⟩; simp at hz; have bb : Blk w1 w.heap.size 69 #[.bool true, .bool false, .int .i64 0, .bool false, .bool false, .bool false, .bool false] := ho.blk (by first | exact B0.out | exact B0.out.alloc _ | exact (B0.out.alloc _).alloc _) (by simp); have K1 := Lib.hid bb; have HS := Lib.hid hs; have HT := Lib.hid ht; have HO := Lib.hid ho; clear hs ht ho bb))
  all_goals
    go_wp2_with fail
    go_ret
    apply Exists.intro
    apply Exists.intro
    apply Exists.intro
    apply Exists.intro
    apply Exists.intro
    refine ⟨rfl, ?c1, ?c2, ?c3, ?c4, ?c5, ?c6, ?c7, ?c8⟩
    case c1 =>
      apply Blk.eq
      · repeat' (first | (with_reducible refine Blk.new' _ _ _ ?_; first | omega | (simp; done) | (simp; omega) | (simp [World.drew]; omega)) | with_reducible apply Blk.drew)
      · exact rfl
    case c2 => have HS' := HS.out; unfold SsC at HS' ⊢; repeat' (first | with_reducible exact HS' | with_reducible exact Blk.at HS' (by first | (simp; done) | (simp; omega) | omega) | with_reducible apply Blk.drew | with_reducible apply Blk.alloc | with_reducible refine Blk.far ?_ (by first | (simp; done) | (simp; omega) | omega) _)
    case c3 => have HT' := HT.out; unfold TsC at HT' ⊢; repeat' (first | with_reducible exact HT' | with_reducible exact Blk.at HT' (by first | rfl | (simp; done) | (simp; omega) | omega) | with_reducible apply Blk.drew | with_reducible apply Blk.alloc | with_reducible refine Blk.far ?_ (by first | (simp; done) | (simp; omega) | omega) _)
    case c4 => repeat' (first | (with_reducible refine Blk.new' _ _ _ ?_; first | omega | (simp; done) | (simp; omega) | (simp [World.drew]; omega)) | with_reducible apply Blk.drew | with_reducible apply Blk.alloc | with_reducible refine Blk.far ?_ (by first | (simp; done) | (simp; omega) | omega) _ | with_reducible refine Off.blk HO.out ?_ (by simp))
    case c5 => repeat' (first | (with_reducible refine Blk.new' _ _ _ ?_; first | omega | (simp; done) | (simp; omega) | (simp [World.drew]; omega)) | with_reducible apply Blk.drew | with_reducible apply Blk.alloc | with_reducible refine Blk.far ?_ (by first | (simp; done) | (simp; omega) | omega) _ | with_reducible refine Off.blk HO.out ?_ (by simp))
    case c6 => repeat' (first | with_reducible exact Off.refl _ _ | with_reducible apply Off.drew | with_reducible apply Off.alloc | with_reducible refine Off.setCell ?_ (Or.inr (by first | (simp; done) | (simp; omega) | omega)) _ | with_reducible refine Off.then ?_ HO.out (by simp))
    case c7 => refine ⟨?_, ?_, ?_, ?_, ?_⟩ <;> (first | omega | (simp; done) | (simp; omega))
    case c8 => refine ⟨?_, ?_, ?_, ?_, ?_, ?_, ?_, ?_, ?_, ?_⟩ <;> (first | omega | (simp; done) | (simp; omega))
end Go.Proofs.YtioabgenlaikaaaGreatDoor
